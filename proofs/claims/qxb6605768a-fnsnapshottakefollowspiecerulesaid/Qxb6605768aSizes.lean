/-
  Seat b6605768a. How members lie in memory; the functions that reckon sizes (14, 38, 24, 25, 15).
-/
import Derived.WalkKit
import Derived.Below
import Derived.Lib.SliceRun
import Derived.Deep.QuietTactic
import Derived.BigQuiet
import Derived.Deep.RegionHeld3
import Derived.Test.Qxb6605768aProg
namespace Go.Proofs.Qxb6605768a
open Go.RowKit
set_option linter.unusedVariables false

/-- A member's five fields. -/
structure Mem where
  id : Int
  name : ByteArray
  addr : ByteArray
  inc : Int
  nv : Bool

/-- A member lies at an address. -/
def MemAt (w : World) (b o : Nat) (m : Mem) : Prop :=
  w.cell? ⟨b, o, none⟩ = some (.int .i64 m.id) ∧ w.cell? ⟨b, o + 1, none⟩ = some (.string m.name) ∧ w.cell? ⟨b, o + 2, none⟩ = some (.string m.addr) ∧ w.cell? ⟨b, o + 3, none⟩ = some (.int .u64 m.inc) ∧ w.cell? ⟨b, o + 4, none⟩ = some (.bool m.nv) ∧
  m.name.size ≤ 9223372036854775807 ∧ m.addr.size ≤ 9223372036854775807

/-- A slice of members. -/
def Mems (w : World) (a : Option Addr) (n : Nat) (ms : Nat → Mem) : Prop :=
  n ≤ 9223372036854775807 ∧ (a = none → n = 0) ∧ (0 < n → ∃ b o, a = some ⟨b, o, none⟩ ∧ ∀ j, j < n → MemAt w b (o + j * 5) (ms j))

/-- A pointer to a member, or nil. -/
def MemPtr (w : World) (p : Option Addr) (m : Mem) : Prop := p = none ∨ ∃ b o, p = some ⟨b, o, none⟩ ∧ MemAt w b o m

theorem MemAt.later {w w' : World} {b o : Nat} {m : Mem} (h : MemAt w b o m) (hb : Below w.heap.size w w') : MemAt w' b o m := by
  obtain ⟨h1, h2, h3, h4, h5, h6⟩ := h
  have hlt := World.block_lt_of_cell? _ _ h1
  exact ⟨(hb.cell (p := ⟨b, o, none⟩) hlt).trans h1, (hb.cell (p := ⟨b, o + 1, none⟩) hlt).trans h2, (hb.cell (p := ⟨b, o + 2, none⟩) hlt).trans h3, (hb.cell (p := ⟨b, o + 3, none⟩) hlt).trans h4, (hb.cell (p := ⟨b, o + 4, none⟩) hlt).trans h5, h6⟩

theorem Mems.later {w w' : World} {a : Option Addr} {n : Nat} {ms : Nat → Mem} (h : Mems w a n ms) (hb : Below w.heap.size w w') : Mems w' a n ms :=
  ⟨h.1, h.2.1, fun h0 => by obtain ⟨b, o, e, hc⟩ := h.2.2 h0; exact ⟨b, o, e, fun j hj => (hc j hj).later hb⟩⟩

theorem MemPtr.later {w w' : World} {p : Option Addr} {m : Mem} (h : MemPtr w p m) (hb : Below w.heap.size w w') : MemPtr w' p m := by
  rcases h with h | ⟨b, o, e, hm⟩
  · exact .inl h
  · exact .inr ⟨b, o, e, hm.later hb⟩

/-- It has returned a uint64. -/
def IsU64 (e : Ending) : Prop := ∃ z : Int, e = .returned (.int .u64 z) ∧ 0 ≤ z

def zadd (a b : Int) : Int := if 1048576 < a ∨ 1048576 < b ∨ 1048576 < a + b then 1048577 else a + b

theorem zadd_nn {a b : Int} (ha : 0 ≤ a) (hb : 0 ≤ b) : 0 ≤ zadd a b := by unfold zadd; split <;> omega

theorem wrap_nn (z : Int) : 0 ≤ IntKind.u64.wrap z := by
  have h : IntKind.u64.wrap z = z % 18446744073709551616 := by simp [IntKind.wrap, IntKind.signed, IntKind.bits]
  rw [h]; exact Int.emod_nonneg _ (by decide)

theorem ret_u64 {a b : Int} (h : a = b) : Ending.returned (.int .u64 a) = .returned (.int .u64 b) := by rw [h]

set_option maxHeartbeats 400000 in
theorem zadd_any (a b : Int) (w : World) (ha : 0 ≤ a) (hb : 0 ≤ b) : Calls Try.prog 14 #[.int .u64 a, .int .u64 b] w fun e w' => e = .returned (.int .u64 (zadd a b)) ∧ w' = w := by
  by_cases h1 : 1048576 < a
  · have Hz : Hid (zadd a b = 1048577) := if_pos (.inl h1)
    go_enter Try.func14, Try.ntmps14
    go_wp2
    go_ret
    exact ⟨ret_u64 Hz.out.symm, rfl⟩
  · by_cases h2 : 1048576 < b
    · have Hz : Hid (zadd a b = 1048577) := if_pos (.inr (.inl h2))
      have h1' : decide (1048576 < a) = false := by simp; omega
      go_enter Try.func14, Try.ntmps14
      go_wp2
      go_ret
      exact ⟨ret_u64 Hz.out.symm, rfl⟩
    · have h1' : decide (1048576 < a) = false := by simp; omega
      have h2' : decide (1048576 < b) = false := by simp; omega
      by_cases h3 : 1048576 < a + b
      · have Hz : Hid (zadd a b = 1048577) := if_pos (.inr (.inr h3))
        go_enter Try.func14, Try.ntmps14
        go_wp2
        go_ret
        exact ⟨ret_u64 Hz.out.symm, rfl⟩
      · have Hz : Hid (zadd a b = a + b) := if_neg (by omega)
        go_enter Try.func14, Try.ntmps14
        go_wp2
        go_ret
        exact ⟨ret_u64 Hz.out.symm, rfl⟩

theorem bdrew {B : Nat} {a w : World} (h : Below B a w) (n : Nat) : Below B a (w.drewN n) := ⟨h.os, h.tape, h.output, h.size, h.block⟩

/-- A member as a value. -/
abbrev Mem.val (m : Mem) : Value := .agg #[.int .i64 m.id, .string m.name, .string m.addr, .int .u64 m.inc, .bool m.nv]

def msize (m : Mem) : Int := zadd (zadd 48 m.name.size) m.addr.size
theorem msize_nn (m : Mem) : 0 ≤ msize m := zadd_nn (zadd_nn (by omega) (by omega)) (by omega)

def MSizeEnd (z : Int) (w : World) (e : Ending) (w' : World) : Prop := e = .returned (.int .u64 z) ∧ Below w.heap.size w w'

set_option maxHeartbeats 400000 in
theorem msize_any (m : Mem) (w : World) (h1 : m.name.size ≤ 9223372036854775807) (h2 : m.addr.size ≤ 9223372036854775807) :
    Calls Try.prog 38 #[.agg #[.int .i64 m.id, .string m.name, .string m.addr, .int .u64 m.inc, .bool m.nv]] w (MSizeEnd (msize m) w) := by
  go_enter Try.func38, Try.ntmps38
  go_wp2
  go_quiet ((go_at_call 14; exact Calls.quiet_of_same (zadd_any _ _ _ (by first | omega | exact zadd_nn (by omega) (by omega)) (by omega))))
  go_wp2
  go_ret
  exact ⟨rfl, bdrew ((Below.refl _ _).alloc (Nat.le_refl _) _) _⟩

/-- It has returned a uint64, and nothing that lay has turned. -/
def U64End (w : World) (e : Ending) (w' : World) : Prop := ∃ z : Int, e = .returned (.int .u64 z) ∧ 0 ≤ z ∧ Below w.heap.size w w'

set_option maxHeartbeats 1000000 in
theorem mssize_any (a : Option Addr) (n c : Nat) (ms : Nat → Mem) (w : World) (h : Mems w a n ms) : Calls Try.prog 24 #[.slice a n c] w (U64End w) := by
  obtain ⟨hn, _, hc⟩ := h
  have HC : Hid _ := hc
  clear hc
  go_enter Try.func24, Try.ntmps24
  go_wp2
  go_loopw [3, 4] (fun s i wr => ∃ (k : Nat) (z : Int), k ≤ n ∧ i = .int .i64 k ∧ s = .int .u64 z ∧ 0 ≤ z ∧ Below w.heap.size w wr) (fun _ i _ => n - (intOf i).toNat)
  case atStart => exact ⟨0, 0, Nat.zero_le _, rfl, rfl, by omega, Below.refl _ _⟩
  case round =>
    obtain ⟨k, z, hk, rfl, rfl, hz, hB⟩ := hrel
    by_cases hlt : k < n
    · have hlt' : (k : Int) < (n : Int) := by omega
      by_cases hl : z ≤ 1048576
      · obtain ⟨b, o, rfl, hc⟩ := HC.out (by omega)
        obtain ⟨c1, c2, c3, c4, c5, s1, s2⟩ := hc k hlt
        clear hc
        have hlb := World.block_lt_of_cell? _ _ c1
        have d1 := (hB.cell (p := ⟨b, o + k * 5, none⟩) hlb).trans c1
        have d2 := (hB.cell (p := ⟨b, o + k * 5 + 1, none⟩) hlb).trans c2
        have d3 := (hB.cell (p := ⟨b, o + k * 5 + 2, none⟩) hlb).trans c3
        have d4 := (hB.cell (p := ⟨b, o + k * 5 + 3, none⟩) hlb).trans c4
        have d5 := (hB.cell (p := ⟨b, o + k * 5 + 4, none⟩) hlb).trans c5
        clear c1 c2 c3 c4 c5
        go_wp2_with fail
        refine (msize_any (ms k) _ s1 s2).mono ?_
        rintro e w1 ⟨rfl, hB1⟩
        have hnn := msize_nn (ms k)
        generalize msize (ms k) = q at *
        go_wp2_with fail
        refine (zadd_any z q _ hz hnn).mono ?_
        rintro e w2 ⟨rfl, rfl⟩
        have hnn2 := zadd_nn hz hnn
        generalize zadd z q = q2 at *
        go_wp2
        go_roundw
        case rel => exact ⟨k + 1, q2, by omega, by go_num, rfl, hnn2, hB.trans (hB1.mono hB.size)⟩
        case measure => simp [intOf]; omega
      · have hl' : decide (z ≤ 1048576) = false := by simp; omega
        go_wp2
        go_ret
        exact ⟨z, rfl, hz, hB⟩
    · have hlt' : decide ((k : Int) < (n : Int)) = false := by simp; omega
      go_wp2
      go_ret
      exact ⟨z, rfl, hz, hB⟩

set_option maxHeartbeats 1000000 in
theorem rsize_any (p : Option Addr) (m : Mem) (w : World) (h : MemPtr w p m) : Calls Try.prog 25 #[.pointer p] w (U64End w) := by
  rcases h with rfl | ⟨b, o, rfl, c1, c2, c3, c4, c5, s1, s2⟩
  · go_enter Try.func25, Try.ntmps25
    go_wp2
    go_ret
    exact ⟨0, rfl, by omega, Below.refl _ _⟩
  · go_enter Try.func25, Try.ntmps25
    go_wp2_with fail
    refine (msize_any m _ s1 s2).mono ?_
    rintro e w1 ⟨rfl, hB1⟩
    have hnn := msize_nn m
    generalize msize m = q at *
    go_wp2
    go_ret
    exact ⟨q, rfl, hnn, hB1⟩

/-- A slice of bytes. -/
def Bytes (w : World) (a : Option Addr) (n : Nat) (bs : Nat → Int) : Prop :=
  n ≤ 9223372036854775807 ∧ (a = none → n = 0) ∧ (0 < n → ∃ b o, a = some ⟨b, o, none⟩ ∧ ∀ j, j < n → w.cell? ⟨b, o + j, none⟩ = some (.int .u8 (bs j)))

theorem Bytes.later {w w' : World} {a : Option Addr} {n : Nat} {bs : Nat → Int} (h : Bytes w a n bs) (hb : Below w.heap.size w w') : Bytes w' a n bs :=
  ⟨h.1, h.2.1, fun h0 => by
    obtain ⟨b, o, e, hc⟩ := h.2.2 h0
    exact ⟨b, o, e, fun j hj => (hb.cell (p := ⟨b, o + j, none⟩) (World.block_lt_of_cell? _ _ (hc j hj))).trans (hc j hj)⟩⟩

set_option maxHeartbeats 1000000 in
theorem snapsize_any (ix tm : Int) (da : Option Addr) (dn dc : Nat) (ma : Option Addr) (mn mc : Nat) (ms : Nat → Mem) (rp : Option Addr) (rm : Mem) (w : World)
    (hd : dn ≤ 9223372036854775807) (hm : Mems w ma mn ms) (hr : MemPtr w rp rm) :
    Calls Try.prog 15 #[.agg #[.int .u64 ix, .int .u64 tm, .slice da dn dc, .slice ma mn mc, .pointer rp]] w (U64End w) := by
  go_enter Try.func15, Try.ntmps15
  go_wp2
  have HM : Hid _ := hm
  have HR : Hid _ := hr
  clear hm hr
  obtain ⟨W, hW⟩ : ∃ W, w.alloc (.cells #[.int .u64 ix, .int .u64 tm, .slice da dn dc, .slice ma mn mc, .pointer rp] 28) = W := ⟨_, rfl⟩
  have hB : Below w.heap.size w W := by rw [← hW]; exact (Below.refl _ _).alloc (Nat.le_refl _) _
  have f2 : W.cell? ⟨w.heap.size, 2, none⟩ = some (.slice da dn dc) := by rw [← hW]; simp
  have f3 : W.cell? ⟨w.heap.size, 3, none⟩ = some (.slice ma mn mc) := by rw [← hW]; simp
  have f4 : W.cell? ⟨w.heap.size, 4, none⟩ = some (.pointer rp) := by rw [← hW]; simp
  have hlt : w.heap.size < W.heap.size := by rw [← hW]; simp
  rw [hW]
  clear hW
  have HK : Hid (∀ X Y : World, (X.cell? ⟨w.heap.size, 2, none⟩ = some (.slice da dn dc) ∧ X.cell? ⟨w.heap.size, 3, none⟩ = some (.slice ma mn mc) ∧ X.cell? ⟨w.heap.size, 4, none⟩ = some (.pointer rp) ∧ Below W.heap.size W X) → Below X.heap.size X Y →
      (Y.cell? ⟨w.heap.size, 2, none⟩ = some (.slice da dn dc) ∧ Y.cell? ⟨w.heap.size, 3, none⟩ = some (.slice ma mn mc) ∧ Y.cell? ⟨w.heap.size, 4, none⟩ = some (.pointer rp) ∧ Below W.heap.size W Y)) := by
    rintro X Y ⟨h1, h2, h3, h4⟩ hXY
    exact ⟨(hXY.cell (World.block_lt_of_cell? _ _ h1)).trans h1, (hXY.cell (World.block_lt_of_cell? _ _ h2)).trans h2, (hXY.cell (World.block_lt_of_cell? _ _ h3)).trans h3, h4.trans (hXY.mono h4.size)⟩
  go_region_held3 (fun w' => w'.cell? ⟨w.heap.size, 2, none⟩ = some (.slice da dn dc) ∧ w'.cell? ⟨w.heap.size, 3, none⟩ = some (.slice ma mn mc) ∧ w'.cell? ⟨w.heap.size, 4, none⟩ = some (.pointer rp) ∧ Below W.heap.size W w')
    (first | assumption | exact ⟨f2, f3, f4, (Below.refl _ _).drew⟩ | exact HK.out _ _ (by assumption) (by assumption))
    (first
      | (go_at_call 24; refine Calls.mono (mssize_any _ _ _ ms _ (by exact Mems.later HM.out (hB.trans ((‹_ ∧ _ ∧ _ ∧ Below W.heap.size W _›).2.2.2.mono hB.size)))) ?_; rintro e w1 ⟨z1, rfl, hz1, hB1⟩)
      | (go_at_call 25; refine Calls.mono (rsize_any _ rm _ (by exact MemPtr.later HR.out (hB.trans ((‹_ ∧ _ ∧ _ ∧ Below W.heap.size W _›).2.2.2.mono hB.size)))) ?_; rintro e w3 ⟨z3, rfl, hz3, hB3⟩)
      | (go_at_call 14; refine Calls.mono (zadd_any _ _ _ (by first | exact wrap_nn _ | exact zadd_nn (wrap_nn _) ‹_›) (by assumption)) ?_; rintro e w2 ⟨rfl, rfl⟩))
  go_wp2
  go_ret
  exact ⟨_, rfl, zadd_nn (zadd_nn (wrap_nn _) ‹_›) ‹_›, hB.trans (Below.mono (‹_ ∧ _ ∧ _ ∧ Below W.heap.size W _›).2.2.2 hB.size)⟩

end Go.Proofs.Qxb6605768a

/-
  Seat b6605768a. The copies: zBytes (26), zMember (39), zMembers (27), zRemoved (28), SnapshotBytes (32).
-/
import Derived.Deep.OwnRows
import Derived.Laws.EntriesVeiled
import Derived.Test.Qxb6605768aSizes
namespace Go.Proofs.Qxb6605768a
open Go.RowKit
set_option linter.unusedVariables false

theorem info5 : (Try.prog.info? 5).map (fun i => (i.zero, i.size, i.bytes)) = some (some (.int .u8 0), 1, 1) := by kernel_rfl
theorem info90 : (Try.prog.info? 90).map (fun i => (i.zero, i.size, i.bytes)) = some (some (.agg #[.int .i64 0, .string ByteArray.empty, .string ByteArray.empty, .int .u64 0, .bool false]), 5, 56) := by kernel_rfl

/-- What zBytes leaves: nil for nil; else a new row of its own that holds the same bytes. -/
def CopyB (a : Option Addr) (n : Nat) (bs : Nat → Int) (B : Nat) (v : Value) (w' : World) : Prop :=
  (a = none ∧ v = .slice none 0 0) ∨ (a ≠ none ∧ ∃ b, B ≤ b ∧ v = .slice (some ⟨b, 0, none⟩) n n ∧ w'.rowIs b 5 n (fun j => .int .u8 (bs j)))

def CopyBEnd (a : Option Addr) (n : Nat) (bs : Nat → Int) (w : World) (e : Ending) (w' : World) : Prop :=
  Below w.heap.size w w' ∧ ∃ v, e = .returned v ∧ CopyB a n bs w.heap.size v w'

set_option maxHeartbeats 1000000 in
theorem zbytes_any (a : Option Addr) (n c : Nat) (bs : Nat → Int) (w : World) (hn : n ≤ 1048576) (h : Bytes w a n bs) : Calls Try.prog 26 #[.slice a n c] w (CopyBEnd a n bs w) := by
  have q : ∀ (w : World) (a : Option Addr) (n c : Nat), (binOp .eql 24 (.slice a n c) (.slice none 0 0)).run Try.prog w = .ok (.bool a.isNone) w := fun w a n c => Lib.run_eql_slice_nil w _ _ a n c 0 0 Try.underlying24
  obtain ⟨_, h0, hc⟩ := h
  cases a with
  | none =>
    go_enter Try.func26, Try.ntmps26
    go_wp2
    go_ret
    exact ⟨Below.refl _ _, _, rfl, .inl ⟨rfl, rfl⟩⟩
  | some x =>
    have HC : Hid _ := hc
    clear hc h0
    have hmk := run_make_row' (P := Try.prog) 24 5 (.int .u8 0) 1 Try.underlying24 info5 rfl .i64 .i64 n (by omega) (by omega)
    go_enter Try.func26, Try.ntmps26
    go_wp2
    have hrow0 := World.rowIs_made w (.int .u8 0) n 5
    have hB0 : Below w.heap.size w (w.alloc (.cells (madeCells #[.int .u8 0] n) 5)) := (Below.refl _ _).alloc (Nat.le_refl _) _
    clear hmk
    go_loopw [4] (fun i wr => ∃ k : Nat, k ≤ n ∧ i = .int .i64 k ∧ wr.rowIs w.heap.size 5 n (fun j => if j < k then .int .u8 (bs j) else .int .u8 0) ∧ Below w.heap.size w wr) (fun i _ => n - (intOf i).toNat)
    case atStart => exact ⟨0, Nat.zero_le _, rfl, by simpa using hrow0, hB0⟩
    case round =>
      obtain ⟨k, hk, rfl, hrow, hB⟩ := hrel
      by_cases hlt : k < n
      · obtain ⟨b, o, hx, hc⟩ := HC.out (by omega)
        cases hx
        have hck := hc k hlt
        have hlb := World.block_lt_of_cell? _ _ hck
        have hcr := (hB.cell (p := ⟨b, o + k, none⟩) hlb).trans hck
        have hd : wr.cell? ⟨w.heap.size, k, none⟩ = some (.int .u8 0) := by rw [hrow.cell hlt, if_neg (by omega)]
        have hf := hrow.frozen k
        clear hc hck
        go_wp2
        go_roundw
        case rel =>
          refine ⟨k + 1, by omega, by go_num, (hrow.set k (.int .u8 (bs k))).congr fun i hi => ?_, hB.setCell (Nat.le_refl _) _⟩
          by_cases e : i = k
          · subst e; simp
          · rw [if_neg e]
            by_cases e2 : i < k
            · rw [if_pos e2, if_pos (by omega)]
            · rw [if_neg e2, if_neg (by omega)]
        case measure => simp [intOf]; omega
      · obtain rfl : k = n := by omega
        go_wp2
        go_ret
        exact ⟨hB, _, rfl, .inr ⟨by simp, w.heap.size, Nat.le_refl _, rfl, hrow.congr fun j hj => by rw [if_pos hj]⟩⟩

def MemberEnd (m : Mem) (w : World) (e : Ending) (w' : World) : Prop := e = .returned m.val ∧ Below w.heap.size w w'

set_option maxHeartbeats 400000 in
theorem zmember_any (m : Mem) (w : World) : Calls Try.prog 39 #[.agg #[.int .i64 m.id, .string m.name, .string m.addr, .int .u64 m.inc, .bool m.nv]] w (MemberEnd m w) := by
  go_enter Try.func39, Try.ntmps39
  go_wp2
  exact bodyPost_ret (v := m.val) (by simp [results, Try.results39, go_sem]) rfl ⟨rfl, ((Below.refl _ _).alloc (Nat.le_refl _) _).alloc (by simp) _⟩

/-- A member stored. -/
def putMem (w : World) (b o : Nat) (m : Mem) : World :=
  ((((w.setCell ⟨b, o, none⟩ (.int .i64 m.id)).setCell ⟨b, o + 1, none⟩ (.string m.name)).setCell ⟨b, o + 2, none⟩ (.string m.addr)).setCell ⟨b, o + 3, none⟩ (.int .u64 m.inc)).setCell ⟨b, o + 4, none⟩ (.bool m.nv)

theorem putMem_row {w : World} {b o N : Nat} {t : TypeId} {f : Nat → Value} {m : Mem} (h : w.rowIs b t N f) : ∃ g, (putMem w b o m).rowIs b t N g := ⟨_, ((((h.set _ _).set _ _).set _ _).set _ _).set _ _⟩

theorem putMem_same {w : World} {b o N : Nat} {t : TypeId} {f : Nat → Value} {m : Mem} (h : w.rowIs b t N f) (ho : o + 4 < N) (s1 : m.name.size ≤ 9223372036854775807) (s2 : m.addr.size ≤ 9223372036854775807) : MemAt (putMem w b o m) b o m := by
  have hr := ((((h.set o (.int .i64 m.id)).set (o + 1) (.string m.name)).set (o + 2) (.string m.addr)).set (o + 3) (.int .u64 m.inc)).set (o + 4) (.bool m.nv)
  refine ⟨(hr.cell (by omega)).trans ?_, (hr.cell (by omega)).trans ?_, (hr.cell (by omega)).trans ?_, (hr.cell (by omega)).trans ?_, (hr.cell (by omega)).trans ?_, s1, s2⟩ <;> simp

theorem cell_apart {w : World} {b o p : Nat} {v u : Value} (h : w.cell? ⟨b, o, none⟩ = some u) (hne : p ≠ o) : (w.setCell ⟨b, p, none⟩ v).cell? ⟨b, o, none⟩ = some u :=
  (World.cell?_setCell_other w ⟨b, p, none⟩ ⟨b, o, none⟩ v (fun e => hne (by injection e))).trans h

theorem putMem_cell {w : World} {b o p : Nat} {m : Mem} {u : Value} (h : w.cell? ⟨b, p, none⟩ = some u) (ho : p < o ∨ o + 4 < p) : (putMem w b o m).cell? ⟨b, p, none⟩ = some u :=
  cell_apart (cell_apart (cell_apart (cell_apart (cell_apart h (by omega)) (by omega)) (by omega)) (by omega)) (by omega)

theorem putMem_other {w : World} {b o p : Nat} {m m' : Mem} (h : MemAt w b p m') (ho : p + 4 < o ∨ o + 4 < p) : MemAt (putMem w b o m) b p m' := by
  obtain ⟨h1, h2, h3, h4, h5, h6⟩ := h
  exact ⟨putMem_cell h1 (by omega), putMem_cell h2 (by omega), putMem_cell h3 (by omega), putMem_cell h4 (by omega), putMem_cell h5 (by omega), h6⟩

theorem putMem_below {w0 w : World} {B b o : Nat} {m : Mem} (h : Below B w0 w) (hb : B ≤ b) : Below B w0 (putMem w b o m) :=
  ((((h.setCell (p := ⟨b, o, none⟩) hb _).setCell (p := ⟨b, o + 1, none⟩) hb _).setCell (p := ⟨b, o + 2, none⟩) hb _).setCell (p := ⟨b, o + 3, none⟩) hb _).setCell (p := ⟨b, o + 4, none⟩) hb _

/-- What zMembers leaves: nil for nil; else a new row of its own that holds the same members. -/
def CopyM (a : Option Addr) (n : Nat) (ms : Nat → Mem) (B : Nat) (v : Value) (w' : World) : Prop :=
  (a = none ∧ v = .slice none 0 0) ∨ (a ≠ none ∧ ∃ b, B ≤ b ∧ v = .slice (some ⟨b, 0, none⟩) n n ∧ (∃ f, w'.rowIs b 90 (n * 5) f) ∧ ∀ j, j < n → MemAt w' b (j * 5) (ms j))

def CopyMEnd (a : Option Addr) (n : Nat) (ms : Nat → Mem) (w : World) (e : Ending) (w' : World) : Prop :=
  Below w.heap.size w w' ∧ ∃ v, e = .returned v ∧ CopyM a n ms w.heap.size v w'

set_option maxHeartbeats 1000000 in
theorem zmembers_any (a : Option Addr) (n c : Nat) (ms : Nat → Mem) (w : World) (hn : n ≤ 1048576) (h : Mems w a n ms) : Calls Try.prog 27 #[.slice a n c] w (CopyMEnd a n ms w) := by
  have q : ∀ (w : World) (a : Option Addr) (n c : Nat), (binOp .eql 25 (.slice a n c) (.slice none 0 0)).run Try.prog w = .ok (.bool a.isNone) w := fun w a n c => Lib.run_eql_slice_nil w _ _ a n c 0 0 Try.underlying25
  obtain ⟨_, h0, hc⟩ := h
  cases a with
  | none =>
    go_enter Try.func27, Try.ntmps27
    go_wp2
    go_ret
    exact ⟨Below.refl _ _, _, rfl, .inl ⟨rfl, rfl⟩⟩
  | some x =>
    have HC : Hid _ := hc
    clear hc h0
    obtain ⟨i0, hi, hii⟩ := Option.map_eq_some_iff.1 info90
    simp only [Prod.mk.injEq] at hii
    have hmk := fun w => run_make (P := Try.prog) w 50 90 i0 _ Try.underlying50 hi hii.1 .i64 .i64 n n (by omega) (by omega) (by rw [hii.2.2]; omega) (by omega)
    simp only [hii.2.1, Int.toNat_natCast, Value.cells] at hmk
    clear hi hii
    go_enter Try.func27, Try.ntmps27
    go_wp2
    have hrow0 : ∃ f, (w.alloc (.cells (madeCells #[.int .i64 0, .string ByteArray.empty, .string ByteArray.empty, .int .u64 0, .bool false] (n * 5)) 90)).rowIs w.heap.size 90 (n * 5) f := by
      have h1 := World.rowIs_alloc w (madeCells #[.int .i64 0, .string ByteArray.empty, .string ByteArray.empty, .int .u64 0, .bool false] (n * 5)) 90 (fun i => (madeCells #[.int .i64 0, .string ByteArray.empty, .string ByteArray.empty, .int .u64 0, .bool false] (n * 5))[i]!) (fun i hi => by simp [hi])
      rw [size_madeCells] at h1
      exact ⟨_, h1⟩
    have hB0 : Below w.heap.size w (w.alloc (.cells (madeCells #[.int .i64 0, .string ByteArray.empty, .string ByteArray.empty, .int .u64 0, .bool false] (n * 5)) 90)) := (Below.refl _ _).alloc (Nat.le_refl _) _
    clear hmk
    obtain ⟨W, hW⟩ : ∃ W, w.alloc (.cells (madeCells #[.int .i64 0, .string ByteArray.empty, .string ByteArray.empty, .int .u64 0, .bool false] (n * 5)) 90) = W := ⟨_, rfl⟩
    rw [hW] at hrow0 hB0 ⊢
    clear hW
    go_loopw [4] (fun i wr => ∃ k : Nat, k ≤ n ∧ i = .int .i64 k ∧ (∃ f, wr.rowIs w.heap.size 90 (n * 5) f) ∧ Hid (∀ j, j < k → MemAt wr w.heap.size (j * 5) (ms j)) ∧ Below w.heap.size w wr) (fun i _ => n - (intOf i).toNat)
    case atStart => exact ⟨0, Nat.zero_le _, rfl, hrow0, fun j hj => absurd hj (by omega), hB0⟩
    case round =>
      obtain ⟨k, hk, rfl, ⟨f, hrow⟩, HM, hB⟩ := hrel
      by_cases hlt : k < n
      · obtain ⟨b, o, hx, hc⟩ := HC.out (by omega)
        cases hx
        have hmk' := (hc k hlt)
        have hBw : Below w.heap.size w wr := hB
        obtain ⟨c1, c2, c3, c4, c5, s1, s2⟩ := hmk'.later hB
        clear hc hmk'
        go_wp2_with fail
        refine (zmember_any (ms k) _).mono ?_
        rintro e w1 ⟨rfl, hB1⟩
        have hrow1 : w1.rowIs w.heap.size 90 (n * 5) f := hrow.of_block (hB1.block _ hrow.lt)
        have d0 := hrow1.cell (i := k * 5) (by omega)
        have d1 := hrow1.cell (i := k * 5 + 1) (by omega)
        have d2 := hrow1.cell (i := k * 5 + 2) (by omega)
        have d3 := hrow1.cell (i := k * 5 + 3) (by omega)
        have d4 := hrow1.cell (i := k * 5 + 4) (by omega)
        have e0 := hrow1.frozen (k * 5)
        have e1 := hrow1.frozen (k * 5 + 1)
        have e2 := hrow1.frozen (k * 5 + 2)
        have e3 := hrow1.frozen (k * 5 + 3)
        have e4 := hrow1.frozen (k * 5 + 4)
        clear c1 c2 c3 c4 c5
        go_wp2_with fail
        refine ⟨⟨k + 1, by omega, by go_num, putMem_row (m := ms k) (o := k * 5) hrow1, fun j hj => ?_, putMem_below (m := ms k) (hB.trans (hB1.mono hB.size)) (Nat.le_refl _)⟩, by simp [intOf]; omega⟩
        by_cases e : j = k
        · subst e; exact putMem_same hrow1 (by omega) s1 s2
        · exact putMem_other ((HM.out j (by omega)).later hB1) (by omega)
      · obtain rfl : k = n := by omega
        go_wp2
        go_ret
        exact ⟨hB, _, rfl, .inr ⟨by simp, w.heap.size, Nat.le_refl _, rfl, ⟨f, hrow⟩, HM.out⟩⟩

/-- What zRemoved leaves: nil for nil; else a new block that holds the same member. -/
def CopyP (p : Option Addr) (m : Mem) (B : Nat) (v : Value) (w' : World) : Prop :=
  (p = none ∧ v = .pointer none) ∨ (p ≠ none ∧ ∃ b, B ≤ b ∧ v = .pointer (some ⟨b, 0, none⟩) ∧ MemAt w' b 0 m)

def CopyPEnd (p : Option Addr) (m : Mem) (w : World) (e : Ending) (w' : World) : Prop :=
  Below w.heap.size w w' ∧ ∃ v, e = .returned v ∧ CopyP p m w.heap.size v w'

set_option maxHeartbeats 1000000 in
theorem zremoved_any (p : Option Addr) (m : Mem) (w : World) (h : MemPtr w p m) : Calls Try.prog 28 #[.pointer p] w (CopyPEnd p m w) := by
  rcases h with rfl | ⟨b, o, rfl, c1, c2, c3, c4, c5, s1, s2⟩
  · go_enter Try.func28, Try.ntmps28
    go_wp2
    go_ret
    exact ⟨Below.refl _ _, _, rfl, .inl ⟨rfl, rfl⟩⟩
  · go_enter Try.func28, Try.ntmps28
    go_wp2_with fail
    refine (zmember_any m _).mono ?_
    rintro e w1 ⟨rfl, hB1⟩
    go_wp2
    go_ret
    exact ⟨hB1.alloc hB1.size _, _, rfl, .inr ⟨by simp, w1.heap.size, hB1.size, rfl, by simp, by simp, by simp, by simp, by simp, s1, s2⟩⟩

def SBEnd (a : Option Addr) (n c : Nat) (w : World) (e : Ending) (w' : World) : Prop := e = .returned (.agg #[.slice a n c, .nilFunc, .int .i64 0]) ∧ Below w.heap.size w w'

set_option maxHeartbeats 400000 in
theorem snapbytes_any (a : Option Addr) (n c : Nat) (w : World) : Calls Try.prog 32 #[.slice a n c] w (SBEnd a n c w) := by
  go_enter Try.func32, Try.ntmps32
  go_wp2
  exact bodyPost_ret (v := .agg #[.slice a n c, .nilFunc, .int .i64 0]) (by simp [results, Try.results32, go_sem]) rfl ⟨rfl, (Below.refl _ _).alloc (Nat.le_refl _) _⟩

end Go.Proofs.Qxb6605768a

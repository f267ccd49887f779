/-
  Seat b6605768a. How log entries lie in memory; the functions that reckon their sizes (29, 8).
-/
import Derived.Test.Qxb6605768aSnap
namespace Go.Proofs.Qxb6605768a
open Go.RowKit
set_option linter.unusedVariables false

/-- An entry's fields. -/
structure Ent where
  term : Int
  cmd : ByteArray
  origin : Int
  ma : Option Addr
  mn : Nat
  mc : Nat
  ms : Nat → Mem

def EntAt (w : World) (b o : Nat) (e : Ent) : Prop :=
  w.cell? ⟨b, o, none⟩ = some (.int .u64 e.term) ∧ w.cell? ⟨b, o + 1, none⟩ = some (.string e.cmd) ∧ w.cell? ⟨b, o + 2, none⟩ = some (.int .u64 e.origin) ∧ w.cell? ⟨b, o + 3, none⟩ = some (.slice e.ma e.mn e.mc) ∧
  e.cmd.size ≤ 9223372036854775807 ∧ Mems w e.ma e.mn e.ms

/-- A slice of entries. -/
def Ents (w : World) (a : Option Addr) (n : Nat) (es : Nat → Ent) : Prop :=
  n ≤ 9223372036854775807 ∧ (a = none → n = 0) ∧ (0 < n → ∃ b o, a = some ⟨b, o, none⟩ ∧ ∀ j, j < n → EntAt w b (o + j * 4) (es j))

theorem EntAt.later {w w' : World} {b o : Nat} {e : Ent} (h : EntAt w b o e) (hb : Below w.heap.size w w') : EntAt w' b o e := by
  obtain ⟨h1, h2, h3, h4, h5, h6⟩ := h
  exact ⟨keepc h1 hb, keepc h2 hb, keepc h3 hb, keepc h4 hb, h5, h6.later hb⟩
theorem Ents.later {w w' : World} {a : Option Addr} {n : Nat} {es : Nat → Ent} (h : Ents w a n es) (hb : Below w.heap.size w w') : Ents w' a n es :=
  ⟨h.1, h.2.1, fun h0 => by obtain ⟨b, o, e, hc⟩ := h.2.2 h0; exact ⟨b, o, e, fun j hj => (hc j hj).later hb⟩⟩

set_option maxHeartbeats 2000000 in
theorem essize_any (a : Option Addr) (n c : Nat) (es : Nat → Ent) (w : World) (h : Ents w a n es) : Calls Try.prog 29 #[.slice a n c] w (U64End w) := by
  obtain ⟨hn, _, hc⟩ := h
  have HC : Hid _ := hc
  clear hc
  go_enter Try.func29, Try.ntmps29
  go_wp2
  go_loopw [3, 4] (fun s i wr => ∃ (k : Nat) (z : Int), k ≤ n ∧ i = .int .i64 k ∧ s = .int .u64 z ∧ 0 ≤ z ∧ Below w.heap.size w wr) (fun _ i _ => n - (intOf i).toNat)
  case atStart => exact ⟨0, 0, Nat.zero_le _, rfl, rfl, by omega, Below.refl _ _⟩
  case round =>
    obtain ⟨k, z, hk, rfl, rfl, hz, hB⟩ := hrel
    by_cases hlt : k < n
    · have hlt' : (k : Int) < (n : Int) := by omega
      by_cases hl : z ≤ 1048576
      · obtain ⟨b, o, rfl, hc⟩ := HC.out (by omega)
        have he := hc k hlt
        obtain ⟨-, c2, -, c4, s1, hm⟩ := he.later hB
        have HM : Hid (Mems w (es k).ma (es k).mn (es k).ms) := he.2.2.2.2.2
        clear hc he hm
        have HK : Hid (∀ X Y : World, (Below w.heap.size w X ∧ X.cell? ⟨b, o + k * 4 + 1, none⟩ = some (.string (es k).cmd) ∧ X.cell? ⟨b, o + k * 4 + 3, none⟩ = some (.slice (es k).ma (es k).mn (es k).mc)) → Below X.heap.size X Y → (Below w.heap.size w Y ∧ Y.cell? ⟨b, o + k * 4 + 1, none⟩ = some (.string (es k).cmd) ∧ Y.cell? ⟨b, o + k * 4 + 3, none⟩ = some (.slice (es k).ma (es k).mn (es k).mc))) := by
          rintro X Y ⟨s0, s1, s2⟩ hXY
          exact ⟨s0.trans (hXY.mono s0.size), keepc s1 hXY, keepc s2 hXY⟩
        have HS0 : Hid (Below w.heap.size w wr.drew ∧ wr.drew.cell? ⟨b, o + k * 4 + 1, none⟩ = some (.string (es k).cmd) ∧ wr.drew.cell? ⟨b, o + k * 4 + 3, none⟩ = some (.slice (es k).ma (es k).mn (es k).mc)) := ⟨hB.drew, c2, c4⟩
        go_wp2
        go_region_held3 (fun w' => Below w.heap.size w w' ∧ w'.cell? ⟨b, o + k * 4 + 1, none⟩ = some (.string (es k).cmd) ∧ w'.cell? ⟨b, o + k * 4 + 3, none⟩ = some (.slice (es k).ma (es k).mn (es k).mc))
          (first | (with_reducible assumption) | (with_reducible exact HS0.out) | (with_reducible exact HK.out _ _ (by with_reducible assumption) (by with_reducible assumption)))
          (first
            | (go_at_call 24; refine Calls.mono (mssize_any _ _ _ (es k).ms _ (by exact Mems.later HM.out (‹Below w.heap.size w _ ∧ _›).1)) ?_; rintro e w1 ⟨z1, rfl, hz1, hB1⟩)
            | (go_at_call 14; refine Calls.mono (zadd_any _ _ _ (by repeat' (first | assumption | omega | exact wrap_nn _ | apply zadd_nn)) (by repeat' (first | assumption | omega | exact wrap_nn _ | apply zadd_nn))) ?_; rintro e w2 ⟨rfl, rfl⟩))
        go_wp2
        have hfin := ‹Below w.heap.size w _ ∧ _›
        go_roundw
        case rel => exact ⟨k + 1, _, by omega, by go_num, rfl, by repeat' (first | assumption | omega | exact wrap_nn _ | apply zadd_nn), hfin.1⟩
        case measure => simp [intOf]; omega
      · have hl' : decide (z ≤ 1048576) = false := by simp; omega
        go_wp2
        go_ret
        exact ⟨z, rfl, hz, hB⟩
    · have hlt' : decide ((k : Int) < (n : Int)) = false := by simp; omega
      go_wp2
      go_ret
      exact ⟨z, rfl, hz, hB⟩

/-- A ZPersistent's cells. -/
abbrev pers (t : Int) (vf : Int) (la : Option Addr) (ln lc : Nat) (cm ix tm : Int) (da : Option Addr) (dn dc : Nat) (ma : Option Addr) (mn mc : Nat) (rp : Option Addr) (inc cid fo : Int) : Array Value :=
  #[.int .u64 t, .int .i64 vf, .slice la ln lc, .int .u64 cm, .int .u64 ix, .int .u64 tm, .slice da dn dc, .slice ma mn mc, .pointer rp, .int .u64 inc, .int .u64 cid, .int .u64 fo]

set_option maxHeartbeats 2000000 in
theorem persize_any (t vf : Int) (la : Option Addr) (ln lc : Nat) (es : Nat → Ent) (cm ix tm : Int) (da : Option Addr) (dn dc : Nat) (ma : Option Addr) (mn mc : Nat) (ms : Nat → Mem) (rp : Option Addr) (rm : Mem) (inc cid fo : Int) (w : World)
    (he : Ents w la ln es) (hd : dn ≤ 9223372036854775807) (hm : Mems w ma mn ms) (hr : MemPtr w rp rm) :
    Calls Try.prog 8 #[.agg (pers t vf la ln lc cm ix tm da dn dc ma mn mc rp inc cid fo)] w (U64End w) := by
  go_enter Try.func8, Try.ntmps8
  go_wp2
  have HE : Hid _ := he
  have HM : Hid _ := hm
  have HR : Hid _ := hr
  clear hm hr he
  obtain ⟨W, hW⟩ : ∃ W, w.alloc (.cells (pers t vf la ln lc cm ix tm da dn dc ma mn mc rp inc cid fo) 32) = W := ⟨_, rfl⟩
  have hB : Below w.heap.size w W := by rw [← hW]; exact (Below.refl _ _).alloc (Nat.le_refl _) _
  have f2 : W.cell? ⟨w.heap.size, 2, none⟩ = some (.slice la ln lc) := by rw [← hW]; simp
  have f4 : W.cell? ⟨w.heap.size, 4, none⟩ = some (.int .u64 ix) := by rw [← hW]; simp
  have f5 : W.cell? ⟨w.heap.size, 5, none⟩ = some (.int .u64 tm) := by rw [← hW]; simp
  have f6 : W.cell? ⟨w.heap.size, 6, none⟩ = some (.slice da dn dc) := by rw [← hW]; simp
  have f7 : W.cell? ⟨w.heap.size, 7, none⟩ = some (.slice ma mn mc) := by rw [← hW]; simp
  have f8 : W.cell? ⟨w.heap.size, 8, none⟩ = some (.pointer rp) := by rw [← hW]; simp
  rw [hW]
  clear hW
  have HK : Hid (∀ X Y : World, (Below w.heap.size w X ∧ X.cell? ⟨w.heap.size, 2, none⟩ = some (.slice la ln lc) ∧ X.cell? ⟨w.heap.size, 4, none⟩ = some (.int .u64 ix) ∧ X.cell? ⟨w.heap.size, 5, none⟩ = some (.int .u64 tm) ∧ X.cell? ⟨w.heap.size, 6, none⟩ = some (.slice da dn dc) ∧ X.cell? ⟨w.heap.size, 7, none⟩ = some (.slice ma mn mc) ∧ X.cell? ⟨w.heap.size, 8, none⟩ = some (.pointer rp)) → Below X.heap.size X Y →
      (Below w.heap.size w Y ∧ Y.cell? ⟨w.heap.size, 2, none⟩ = some (.slice la ln lc) ∧ Y.cell? ⟨w.heap.size, 4, none⟩ = some (.int .u64 ix) ∧ Y.cell? ⟨w.heap.size, 5, none⟩ = some (.int .u64 tm) ∧ Y.cell? ⟨w.heap.size, 6, none⟩ = some (.slice da dn dc) ∧ Y.cell? ⟨w.heap.size, 7, none⟩ = some (.slice ma mn mc) ∧ Y.cell? ⟨w.heap.size, 8, none⟩ = some (.pointer rp))) := by
    rintro X Y ⟨s0, s1, s2, s3, s4, s5, s6⟩ hXY
    exact ⟨s0.trans (hXY.mono s0.size), keepc s1 hXY, keepc s2 hXY, keepc s3 hXY, keepc s4 hXY, keepc s5 hXY, keepc s6 hXY⟩
  have HS0 : Hid (Below w.heap.size w W.drew ∧ W.drew.cell? ⟨w.heap.size, 2, none⟩ = some (.slice la ln lc) ∧ W.drew.cell? ⟨w.heap.size, 4, none⟩ = some (.int .u64 ix) ∧ W.drew.cell? ⟨w.heap.size, 5, none⟩ = some (.int .u64 tm) ∧ W.drew.cell? ⟨w.heap.size, 6, none⟩ = some (.slice da dn dc) ∧ W.drew.cell? ⟨w.heap.size, 7, none⟩ = some (.slice ma mn mc) ∧ W.drew.cell? ⟨w.heap.size, 8, none⟩ = some (.pointer rp)) := ⟨hB.drew, f2, f4, f5, f6, f7, f8⟩
  go_region_held3 (fun w' => Below w.heap.size w w' ∧ w'.cell? ⟨w.heap.size, 2, none⟩ = some (.slice la ln lc) ∧ w'.cell? ⟨w.heap.size, 4, none⟩ = some (.int .u64 ix) ∧ w'.cell? ⟨w.heap.size, 5, none⟩ = some (.int .u64 tm) ∧ w'.cell? ⟨w.heap.size, 6, none⟩ = some (.slice da dn dc) ∧ w'.cell? ⟨w.heap.size, 7, none⟩ = some (.slice ma mn mc) ∧ w'.cell? ⟨w.heap.size, 8, none⟩ = some (.pointer rp))
    (first | (with_reducible assumption) | (with_reducible exact HS0.out) | (with_reducible exact HK.out _ _ (by with_reducible assumption) (by with_reducible assumption)))
    (first
      | (go_at_call 29; refine Calls.mono (essize_any _ _ _ es _ (by exact Ents.later HE.out (‹Below w.heap.size w _ ∧ _›).1)) ?_; rintro e w1 ⟨z1, rfl, hz1, hB1⟩)
      | (go_at_call 15; refine Calls.mono (snapsize_any _ _ _ _ _ _ _ _ ms _ rm _ (by omega) (by exact Mems.later HM.out (‹Below w.heap.size w _ ∧ _›).1) (by exact MemPtr.later HR.out (‹Below w.heap.size w _ ∧ _›).1)) ?_; rintro e w3 ⟨z3, rfl, hz3, hB3⟩)
      | (go_at_call 14; refine Calls.mono (zadd_any _ _ _ (by assumption) (by assumption)) ?_; rintro e w2 ⟨rfl, rfl⟩))
  go_wp2
  go_ret
  exact ⟨_, rfl, zadd_nn ‹_› ‹_›, (‹Below w.heap.size w _ ∧ _›).1⟩

end Go.Proofs.Qxb6605768a

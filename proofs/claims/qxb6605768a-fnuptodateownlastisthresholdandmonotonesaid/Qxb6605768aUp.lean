/-
  Seat b6605768a. LastIndex (40), entry (43), TermAt (41), Last (31), UpToDate (10), zLast (11).
-/
import Derived.Test.Qxb6605768aPers
namespace Go.Proofs.Qxb6605768a
open Go.RowKit
set_option linter.unusedVariables false

theorem ret_bool {a b : Bool} (h : a = b) : Ending.returned (.bool a) = .returned (.bool b) := by rw [h]
theorem ret_pair {a b c d : Int} (h : a = c) (h' : b = d) : Ending.returned (.tuple #[.int .u64 a, .int .u64 b]) = .returned (.tuple #[.int .u64 c, .int .u64 d]) := by rw [h, h']

def RetU (z : Int) (w : World) (e : Ending) (w' : World) : Prop := e = .returned (.int .u64 z) ∧ Below w.heap.size w w'

set_option maxHeartbeats 1000000 in
theorem lastindex_any (b : Nat) (ix tm : Int) (ln : Nat) (es : Nat → Ent) (w : World) (h : PersAt w b ix tm ln es) (hln : ln ≤ 1048576) (hix : 0 ≤ ix) (hno : ix + (ln : Int) ≤ 18446744073709551615) :
    Calls Try.prog 40 #[.pointer (some ⟨b, 0, none⟩)] w (RetU (ix + ln) w) := by
  obtain ⟨c4, c5, x, z, c2, -⟩ := h
  go_enter Try.func40, Try.ntmps40
  go_wp2
  go_quiet (fail)
  go_wp2
  go_ret
  exact ⟨rfl, bdrew (Below.refl _ _) _⟩

def EntryEnd (t : Int) (w : World) (e : Ending) (w' : World) : Prop := ∃ s o x y z, e = .returned (.agg #[.int .u64 t, .string s, .int .u64 o, .slice x y z]) ∧ Below w.heap.size w w'

set_option maxHeartbeats 1000000 in
theorem entry_any (b : Nat) (ix tm i : Int) (m : Nat) (es : Nat → Ent) (w : World) (h : PersAt w b ix tm (m + 1) es) (hm : m + 1 ≤ 1048576) (hi : i - ix = (m : Int) + 1) :
    Calls Try.prog 43 #[.pointer (some ⟨b, 0, none⟩), .int .u64 i] w (EntryEnd (es m).term w) := by
  obtain ⟨c4, c5, x, z, c2, hl⟩ := h
  obtain ⟨rfl, lb, rfl, hrow, ho⟩ := hl (by omega)
  obtain ⟨d0, s, o, xx, yy, zz, d1, d2, d3⟩ := ho m (by omega)
  clear hl ho hrow c5
  have hb := World.block_lt_of_cell? _ _ c4
  have hlb := World.block_lt_of_cell? _ _ d0
  obtain ⟨W, hW⟩ : ∃ W, w.alloc (.cells #[.int .u64 0, .string ByteArray.empty, .int .u64 0, .slice none 0 0] 93) = W := ⟨_, rfl⟩
  have hB : Below w.heap.size w W := by rw [← hW]; exact (Below.refl _ _).alloc (Nat.le_refl _) _
  have e0 : W.cell? ⟨w.heap.size, 0, none⟩ = some (.int .u64 0) := by rw [← hW]; simp
  have e1 : W.cell? ⟨w.heap.size, 1, none⟩ = some (.string ByteArray.empty) := by rw [← hW]; simp
  have e2 : W.cell? ⟨w.heap.size, 2, none⟩ = some (.int .u64 0) := by rw [← hW]; simp
  have e3 : W.cell? ⟨w.heap.size, 3, none⟩ = some (.slice none 0 0) := by rw [← hW]; simp
  have g0 : W.frozen? ⟨w.heap.size, 0, none⟩ = false := by rw [← hW]; simp
  have g1 : W.frozen? ⟨w.heap.size, 1, none⟩ = false := by rw [← hW]; simp
  have g2 : W.frozen? ⟨w.heap.size, 2, none⟩ = false := by rw [← hW]; simp
  have g3 : W.frozen? ⟨w.heap.size, 3, none⟩ = false := by rw [← hW]; simp
  replace c4 := keepc c4 hB
  replace c2 := keepc c2 hB
  replace d0 := keepc d0 hB
  replace d1 := keepc d1 hB
  replace d2 := keepc d2 hB
  replace d3 := keepc d3 hB
  go_enter Try.func43, Try.ntmps43
  go_wp2
  rw [show (w.alloc (.cells #[.int .u64 0, .string { data := #[] }, .int .u64 0, .slice none 0 0] 93)) = W from hW]
  clear hW
  go_region
  go_wp2
  refine bodyPost_ret (v := .agg #[.int .u64 (es m).term, .string s, .int .u64 o, .slice xx yy zz]) (by simp [results, Try.results43, go_sem, e0, e1, e2, e3]) rfl ⟨s, o, xx, yy, zz, rfl, ?_⟩
  exact ((((hB.setCell (p := ⟨w.heap.size, 0, none⟩) (Nat.le_refl _) _).setCell (p := ⟨w.heap.size, 1, none⟩) (Nat.le_refl _) _).setCell (p := ⟨w.heap.size, 2, none⟩) (Nat.le_refl _) _).setCell (p := ⟨w.heap.size, 3, none⟩) (Nat.le_refl _) _).drew

/-- The term of the last entry. -/
def ownT (tm : Int) (ln : Nat) (es : Nat → Ent) : Int := if ln = 0 then tm else (es (ln - 1)).term

set_option maxRecDepth 100000 in
set_option maxHeartbeats 1000000 in
theorem termat_any (b : Nat) (ix tm i : Int) (ln : Nat) (es : Nat → Ent) (w : World) (h : PersAt w b ix tm ln es) (hln : ln ≤ 1048576) (hix : 0 ≤ ix) (hi : i = ix + (ln : Int)) (hno : i ≤ 18446744073709551615) :
    Calls Try.prog 41 #[.pointer (some ⟨b, 0, none⟩), .int .u64 i] w (RetU (ownT tm ln es) w) := by
  cases ln with
  | zero =>
    obtain rfl : i = ix := by omega
    have H : Hid (ownT tm 0 es = tm) := rfl
    obtain ⟨c4, c5, -⟩ := h
    clear hi hno hln
    go_enter Try.func41, Try.ntmps41
    go_wp2
    go_ret
    exact ⟨ret_u64 H.out.symm, Below.refl _ _⟩
  | succ m =>
    have H : Hid (ownT tm (m + 1) es = (es m).term) := by unfold Hid ownT; rw [if_neg (by omega)]; rfl
    have HP : Hid _ := h
    obtain ⟨c4, c5, -⟩ := h
    have hne : (i == ix) = false := by rw [beq_eq_false_iff_ne]; omega
    have hl1 : decide (i < ix) = false := by simp; omega
    have hsub : i - ix = (m : Int) + 1 := by omega
    have hl2 : decide (ix + ((m + 1 : Nat) : Int) < i) = false := by simp; omega
    have HI : Hid _ := hi
    clear hi
    have qf : ∀ (w : World) (v0 : Int) (v1 : ByteArray) (v2 : Int) (x : Option Addr) (y z : Nat), (Instr.field 93 (.agg #[.int .u64 v0, .string v1, .int .u64 v2, .slice x y z]) 0).run Try.prog w = .ok (.int .u64 v0) w := fun w v0 v1 v2 x y z => by kernel_rfl
    go_enter Try.func41, Try.ntmps41
    go_wp2_with fail
    refine (lastindex_any b ix tm (m + 1) es _ HP.out hln hix (by have := HI.out; omega)).mono ?_
    rintro e w1 ⟨rfl, hB1⟩
    go_wp2_with fail
    refine (entry_any b ix tm i m es _ (PersAt.later HP.out hB1) hln hsub).mono ?_
    rintro e w2 ⟨s, o, x, y, z, rfl, hB2⟩
    go_wp2
    go_ret
    exact ⟨ret_u64 H.out.symm, hB1.trans (hB2.mono hB1.size)⟩

def LastEnd (i t : Int) (w : World) (e : Ending) (w' : World) : Prop := e = .returned (.tuple #[.int .u64 i, .int .u64 t]) ∧ Below w.heap.size w w'

set_option maxHeartbeats 1000000 in
theorem last_any (b : Nat) (ix tm : Int) (ln : Nat) (es : Nat → Ent) (w : World) (h : PersAt w b ix tm ln es) (hln : ln ≤ 1048576) (hix : 0 ≤ ix) (hno : ix + (ln : Int) ≤ 18446744073709551615) :
    Calls Try.prog 31 #[.pointer (some ⟨b, 0, none⟩)] w (LastEnd (ix + ln) (ownT tm ln es) w) := by
  have HP : Hid _ := h
  clear h
  go_enter Try.func31, Try.ntmps31
  go_wp2_with fail
  refine (lastindex_any b ix tm ln es _ HP.out hln hix hno).mono ?_
  rintro e w1 ⟨rfl, hB1⟩
  go_wp2_with fail
  refine (termat_any b ix tm _ ln es _ (PersAt.later HP.out hB1) hln hix rfl hno).mono ?_
  rintro e w2 ⟨rfl, hB2⟩
  go_wp2
  go_ret2
  exact ⟨rfl, hB1.trans (hB2.mono hB1.size)⟩

/-- What UpToDate answers. -/
def upTo (oi ot index term : Int) : Bool := if term = ot then decide (oi ≤ index) else decide (ot < term)
def UpEnd (oi ot index term : Int) (w : World) (e : Ending) (w' : World) : Prop := e = .returned (.bool (upTo oi ot index term)) ∧ Below w.heap.size w w'

set_option maxHeartbeats 1000000 in
theorem upto_any (b : Nat) (ix tm index term : Int) (ln : Nat) (es : Nat → Ent) (w : World) (h : PersAt w b ix tm ln es) (hln : ln ≤ 1048576) (hix : 0 ≤ ix) (hno : ix + (ln : Int) ≤ 18446744073709551615) :
    Calls Try.prog 10 #[.pointer (some ⟨b, 0, none⟩), .int .u64 index, .int .u64 term] w (UpEnd (ix + ln) (ownT tm ln es) index term w) := by
  have HP : Hid _ := h
  clear h
  go_enter Try.func10, Try.ntmps10
  go_wp2_with fail
  refine (last_any b ix tm ln es _ HP.out hln hix hno).mono ?_
  rintro e w1 ⟨rfl, hB1⟩
  generalize ownT tm ln es = ot at *
  generalize ix + (ln : Int) = oi at *
  by_cases h : term = ot
  · have H : Hid (upTo oi ot index term = decide (oi ≤ index)) := if_pos h
    have hne : (term != ot) = false := by simp [h]
    clear h
    go_wp2
    go_ret
    exact ⟨ret_bool H.out.symm, hB1⟩
  · have H : Hid (upTo oi ot index term = decide (ot < term)) := if_neg h
    have hne : (term != ot) = true := by simp [h]
    clear h
    go_wp2
    go_ret
    exact ⟨ret_bool H.out.symm, hB1⟩

set_option maxRecDepth 100000 in
set_option maxHeartbeats 1000000 in
theorem zlast_any (t vf : Int) (la : Option Addr) (ln lc : Nat) (es : Nat → Ent) (cm ix tm : Int) (da : Option Addr) (dn dc : Nat) (ma : Option Addr) (mn mc : Nat) (rp : Option Addr) (inc cid fo : Int) (w : World)
    (he : Ents w la ln es) (hln : ln ≤ 1048576) (hix : 0 ≤ ix) (hno : ix + (ln : Int) ≤ 18446744073709551615) :
    Calls Try.prog 11 #[.agg (pers t vf la ln lc cm ix tm da dn dc ma mn mc rp inc cid fo)] w (LastEnd (ix + ln) (ownT tm ln es) w) := by
  obtain ⟨-, -, hc⟩ := he
  cases ln with
  | zero =>
    have H : Hid (ownT tm 0 es = tm) := rfl
    clear hc hno
    go_enter Try.func11, Try.ntmps11
    go_wp2
    go_quiet (fail)
    go_wp2
    go_ret2
    exact ⟨ret_pair (by simp) H.out.symm, bdrew ((Below.refl _ _).alloc (Nat.le_refl _) _) _⟩
  | succ m =>
    have H : Hid (ownT tm (m + 1) es = (es m).term) := by unfold Hid ownT; rw [if_neg (by omega)]; rfl
    obtain ⟨b, o, rfl, hc'⟩ := hc (by omega)
    obtain ⟨d0, -⟩ := hc' m (by omega)
    clear hc'
    have hlb := World.block_lt_of_cell? _ _ d0
    clear hc
    obtain ⟨W, hW⟩ : ∃ W, w.alloc (.cells (pers t vf (some ⟨b, o, none⟩) (m + 1) lc cm ix tm da dn dc ma mn mc rp inc cid fo) 32) = W := ⟨_, rfl⟩
    have hB : Below w.heap.size w W := by rw [← hW]; exact (Below.refl _ _).alloc (Nat.le_refl _) _
    have f2 : W.cell? ⟨w.heap.size, 2, none⟩ = some (.slice (some ⟨b, o, none⟩) (m + 1) lc) := by rw [← hW]; simp
    have f4 : W.cell? ⟨w.heap.size, 4, none⟩ = some (.int .u64 ix) := by rw [← hW]; simp
    replace d0 := keepc d0 hB
    have hz : (((m : Int) + 1) == 0) = false := by rw [beq_eq_false_iff_ne]; omega
    go_enter Try.func11, Try.ntmps11
    go_wp2
    clear hW
    go_quiet (fail)
    go_wp2
    go_ret2
    exact ⟨ret_pair (by omega) H.out.symm, bdrew hB _⟩

end Go.Proofs.Qxb6605768a

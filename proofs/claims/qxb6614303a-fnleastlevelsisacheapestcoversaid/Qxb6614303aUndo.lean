/-
  Seat b6614303a. Plain: rollback takes back what insert logged.
-/
import Derived.Test.Qxb6614303aRoll
import Derived.Test.Qxb6614303aLaws2
namespace Go.Proofs.Qxb6614303a
open Go.RowKit
set_option linter.unusedVariables false

def undoR (es : List Chg) (nds : List Nd) : List Nd := es.foldr (fun e acc => undo1 acc e) nds

theorem undoTo_app (lg es : List Chg) : ∀ (nds : List Nd), undoTo lg.length (lg.length + es.length) nds (lg ++ es) = undoR es nds := by
  -- by the number of changes that are left, the latest first
  have gen : ∀ (m : Nat), m ≤ es.length → ∀ nds, undoTo lg.length (lg.length + m) nds (lg ++ es) = undoR (es.take m) nds := by
    intro m
    induction m with
    | zero => intro _ nds; simp [undoTo_self, undoR]
    | succ m ih =>
      intro hm nds
      rw [show lg.length + (m + 1) = (lg.length + m) + 1 by omega, undoTo, if_neg (by omega), ih (by omega)]
      have e1 : (lg ++ es).getD (lg.length + m) ⟨0, 0, 0, false, false⟩ = es[m] := by
        rw [List.getD, List.getElem?_append_right (by omega), Nat.add_sub_cancel_left, List.getElem?_eq_getElem (by omega)]
        rfl
      have e2 : es.take (m + 1) = es.take m ++ [es[m]] := List.take_succ_eq_append_getElem (by omega)
      rw [e1, e2]
      simp only [undoR, List.foldr_append, List.foldr_cons, List.foldr_nil]
  intro nds
  have := gen es.length (Nat.le_refl _) nds
  rwa [List.take_length] at this

theorem undo1_take {nds : List Nd} {n : Nat} {ch : Chg} (h0 : 0 ≤ ch.node) (h1 : ch.node < n) (hn : n ≤ nds.length) : (undo1 nds ch).take n = undo1 (nds.take n) ch := by
  have e : ndAt (nds.take n) ch.node.toNat = ndAt nds ch.node.toNat := by
    unfold ndAt
    rw [List.getD, List.getD, List.getElem?_take_of_lt (by omega)]
  unfold undo1
  dsimp only
  rw [e]
  split
  · rw [List.take_set]
  · split <;> rw [List.take_set]

/-- What an insertion logs can be taken back. -/
def Back (n : Nat) (nds nds' : List Nd) (es : List Chg) : Prop := n ≤ (undoR es nds').length ∧ (undoR es nds').take n = nds ∧ (∀ e ∈ es, 0 ≤ e.node ∧ e.node < n)

theorem set_self {nds : List Nd} {i : Nat} (hi : i < nds.length) : nds.set i (ndAt nds i) = nds := by
  apply List.ext_getElem?
  intro j
  by_cases e : i = j
  · subst e
    rw [List.getElem?_set_self hi, ndAt, List.getD, List.getElem?_eq_getElem hi]
    rfl
  · rw [List.getElem?_set_ne e]

theorem undoR_len (es : List Chg) (nds : List Nd) : (undoR es nds).length = nds.length := by
  induction es with
  | nil => rfl
  | cons e es ih => simp only [undoR, List.foldr_cons, undo1_len]; exact ih

theorem rest_back {xs : Nat → Int} {f : Nat} (ih : ∀ (nds : List Nd) (lg : List Chg) (i lo hi : Nat) (a b : Int), Safe nds → i < nds.length → ∃ es, (ins xs true f nds lg i lo hi a b).2 = lg ++ es ∧ es.length ≤ 2 * f ∧ Back nds.length nds (ins xs true f nds lg i lo hi a b).1 es)
    {nds : List Nd} {lg : List Chg} {i lo hi : Nat} {la lb ka kb dl dr : Int} (hs : Safe nds) (hi1 : i < nds.length) (hd : ndAt nds i = ⟨ka, kb, dl, dr⟩) :
    ∃ es, (insRest xs true f nds lg i lo hi la lb ka kb dl dr).2 = lg ++ es ∧ es.length ≤ 2 * f + 1 ∧ Back nds.length nds (insRest xs true f nds lg i lo hi la lb ka kb dl dr).1 es := by
  have hsi := hs i hi1
  rw [hd] at hsi
  have hnil : ∀ nds : List Nd, Back nds.length nds nds [] := fun nds => ⟨Nat.le_refl _, by simp [undoR], fun e he => by cases he⟩
  unfold insRest
  split
  · exact ⟨[], by simp, by simp, hnil nds⟩
  · split
    · split
      · rename_i hc
        refine ⟨[⟨i, 0, 0, true, true⟩], by simp, by simp, ?_, ?_, ?_⟩
        · rw [undoR_len]; simp
        · simp only [undoR, List.foldr_cons, List.foldr_nil]
          rw [undo1_take (by simp) (by simp; omega) (by simp)]
          have e0 : (nds.set i (⟨ka, kb, (nds.length : Int), dr⟩ : Nd) ++ [(⟨la, lb, -1, -1⟩ : Nd)]).take nds.length = nds.set i (⟨ka, kb, (nds.length : Int), dr⟩ : Nd) := by
            rw [List.take_append_of_le_length (by simp), List.take_of_length_le (by simp)]
          rw [e0]
          unfold undo1
          simp only [Int.toNat_natCast, Bool.true_eq_false, if_false, if_true]
          rw [ndAt_set _ hi1, List.set_set]
          rw [← hc, ← hd]
          exact set_self hi1
        · intro e he
          simp only [List.mem_singleton] at he
          subst he
          exact ⟨by simp, by simp; omega⟩
      · rename_i hc
        obtain ⟨es, h1, h2, h3⟩ := ih nds lg dl.toNat lo ((lo + hi) / 2) la lb hs (by simp only at hsi; omega)
        exact ⟨es, h1, by omega, h3⟩
    · split
      · split
        · rename_i hc
          refine ⟨[⟨i, 0, 0, true, false⟩], by simp, by simp, ?_, ?_, ?_⟩
          · rw [undoR_len]; simp
          · simp only [undoR, List.foldr_cons, List.foldr_nil]
            rw [undo1_take (by simp) (by simp; omega) (by simp)]
            have e0 : (nds.set i (⟨ka, kb, dl, (nds.length : Int)⟩ : Nd) ++ [(⟨la, lb, -1, -1⟩ : Nd)]).take nds.length = nds.set i (⟨ka, kb, dl, (nds.length : Int)⟩ : Nd) := by
              rw [List.take_append_of_le_length (by simp), List.take_of_length_le (by simp)]
            rw [e0]
            unfold undo1
            simp only [Int.toNat_natCast, Bool.true_eq_false, Bool.false_eq_true, if_false]
            rw [ndAt_set _ hi1, List.set_set]
            rw [← hc, ← hd]
            exact set_self hi1
          · intro e he
            simp only [List.mem_singleton] at he
            subst he
            exact ⟨by simp, by simp; omega⟩
        · rename_i hc
          obtain ⟨es, h1, h2, h3⟩ := ih nds lg dr.toNat ((lo + hi) / 2 + 1) hi la lb hs (by simp only at hsi; omega)
          exact ⟨es, h1, by omega, h3⟩
      · exact ⟨[], by simp, by simp, hnil nds⟩

theorem ins_back (xs : Nat → Int) : ∀ (f : Nat) (nds : List Nd) (lg : List Chg) (i lo hi : Nat) (a b : Int), Safe nds → i < nds.length → ∃ es, (ins xs true f nds lg i lo hi a b).2 = lg ++ es ∧ es.length ≤ 2 * f ∧ Back nds.length nds (ins xs true f nds lg i lo hi a b).1 es
  | 0, nds, lg, i, lo, hi, a, b, hs, hi1 => ⟨[], by simp [ins], by simp, by simp [ins, undoR], by simp [ins, undoR], fun e he => by cases he⟩
  | f + 1, nds, lg, i, lo, hi, a, b, hs, hi1 => by
    by_cases hsw : evl a b (xs ((lo + hi) / 2)) < evl (ndAt nds i).a (ndAt nds i).b (xs ((lo + hi) / 2))
    · rw [ins_sw rfl hsw]
      simp only [if_true]
      obtain ⟨es, h1, h2, h3, h4, h5⟩ := rest_back (ins_back xs f) (lg := lg ++ [⟨i, (ndAt nds i).a, (ndAt nds i).b, false, false⟩]) (lo := lo) (hi := hi) (la := (ndAt nds i).a) (lb := (ndAt nds i).b) (hs.line hi1 rfl a b) (by rw [List.length_set]; exact hi1) (ndAt_set _ hi1)
      rw [List.length_set] at h3 h4 h5
      refine ⟨⟨i, (ndAt nds i).a, (ndAt nds i).b, false, false⟩ :: es, by rw [h1]; simp, by simp; omega, ?_, ?_, ?_⟩
      · simp only [undoR, List.foldr_cons, undo1_len]
        exact h3
      · have e0 : ∀ X : List Nd, undoR (⟨i, (ndAt nds i).a, (ndAt nds i).b, false, false⟩ :: es) X = undo1 (undoR es X) ⟨i, (ndAt nds i).a, (ndAt nds i).b, false, false⟩ := fun X => rfl
        rw [e0, undo1_take (Int.natCast_nonneg i) (by show (i : Int) < _; omega) h3, h4]
        unfold undo1
        simp only [Int.toNat_natCast, if_true]
        rw [ndAt_set _ hi1, List.set_set]
        exact set_self hi1
      · intro e he
        rcases List.mem_cons.1 he with rfl | he
        · exact ⟨by simp, by simp; omega⟩
        · exact h5 e he
    · rw [ins_nsw rfl hsw]
      obtain ⟨es, h1, h2, h3⟩ := rest_back (ins_back xs f) (lg := lg) (lo := lo) (hi := hi) (la := a) (lb := b) hs hi1 rfl
      exact ⟨es, h1, by omega, h3⟩

end Go.Proofs.Qxb6614303a

/-
  Seat b6614303a. The rows of least costs and the cuts, without Go.
-/
import Derived.Test.Qxb6614303aStack
import Derived.Test.Qxb6614303aFirst
namespace Go.Proofs.Qxb6614303a
open Go.RowKit
set_option linter.unusedVariables false

theorem need_iff (f : Nat → Int) (i : Nat) (m : Int) : ∀ k, need f i k ≤ m ↔ 0 ≤ m ∧ ∀ x, i ≤ x → x < i + k → f x ≤ m
  | 0 => by
    simp only [need]
    exact ⟨fun h => ⟨h, fun x h1 h2 => by omega⟩, fun h => h.1⟩
  | k + 1 => by
    rw [need]
    have ih := need_iff f i m k
    constructor
    · intro h
      have h1 := ih.1 (by omega)
      refine ⟨h1.1, fun x h2 h3 => ?_⟩
      by_cases e : x = i + k
      · subst e; omega
      · exact h1.2 x h2 (by omega)
    · intro h
      have h1 := ih.2 ⟨h.1, fun x h2 h3 => h.2 x h2 (by omega)⟩
      have h2 := h.2 (i + k) (by omega) (by omega)
      omega
theorem need_ge (f : Nat → Int) {i k x : Nat} (h1 : i ≤ x) (h2 : x < i + k) : f x ≤ need f i k := ((need_iff f i _ k).1 (Int.le_refl _)).2 x h1 h2
theorem need_mono {f g : Nat → Int} {i k i' k' : Nat} (h : ∀ x, i ≤ x → x < i + k → ∃ y, i' ≤ y ∧ y < i' + k' ∧ f x ≤ g y) : need f i k ≤ need g i' k' := by
  refine (need_iff f i _ k).2 ⟨need_pos _ _ _, fun x h1 h2 => ?_⟩
  obtain ⟨y, h3, h4, h5⟩ := h x h1 h2
  have := need_ge g h3 h4
  omega
/-- The largest is taken. -/
theorem need_att (f : Nat → Int) (i : Nat) : ∀ k, 0 < k → (∀ x, i ≤ x → x < i + k → 0 ≤ f x) → ∃ x, i ≤ x ∧ x < i + k ∧ f x = need f i k
  | 0, h, _ => absurd h (by omega)
  | k + 1, _, hf => by
    by_cases h0 : k = 0
    · subst h0
      have := hf i (by omega) (by omega)
      exact ⟨i, by omega, by omega, by simp only [need, Nat.add_zero]; omega⟩
    · obtain ⟨x, h1, h2, h3⟩ := need_att f i k (by omega) (fun x h1 h2 => hf x h1 (by omega))
      by_cases h4 : need f i k ≤ f (i + k)
      · exact ⟨i + k, by omega, by omega, by rw [need]; omega⟩
      · exact ⟨x, h1, by omega, by rw [need]; omega⟩
theorem need_left (f : Nat → Int) (i k : Nat) : need f i (k + 1) = mx (need f (i + 1) k) (f i) := by
  have h1 : need f (i + 1) k ≤ need f i (k + 1) := need_mono (fun x h1 h2 => ⟨x, by omega, by omega, Int.le_refl _⟩)
  have h2 : f i ≤ need f i (k + 1) := need_ge f (by omega) (by omega)
  have h3 := need_pos f (i + 1) k
  have h4 : need f i (k + 1) ≤ mx (need f (i + 1) k) (f i) := by
    refine (need_iff f i _ _).2 ⟨by unfold mx; split <;> omega, fun x h5 h6 => ?_⟩
    by_cases e : x = i
    · subst e; unfold mx; split <;> omega
    · have := need_ge f (i := i + 1) (k := k) (x := x) (by omega) (by omega)
      unfold mx; split <;> omega
  unfold mx at *
  split at h4 <;> (split <;> omega)
/-- All needs shifted. -/
theorem need_shift (f : Nat → Int) (c : Int) (hc : 0 ≤ c) (i : Nat) : ∀ k, 0 < k → (∀ x, i ≤ x → x < i + k → 0 ≤ f x) → need (fun x => f x + c) i k = need f i k + c
  | 0, h, _ => absurd h (by omega)
  | k + 1, _, hf => by
    have h1 := hf (i + k) (by omega) (by omega)
    by_cases h0 : k = 0
    · subst h0
      simp only [need, Nat.add_zero] at *
      omega
    · rw [need, need, need_shift f c hc i k (by omega) (fun x h1 h2 => hf x h1 (by omega))]
      omega
theorem lvl_need (lev : Nat → Int) : ∀ j, lvl lev j = need lev 0 j
  | 0 => rfl
  | j + 1 => by
    rw [lvl, need, lvl_need lev j, Nat.zero_add]
    unfold mx
    split <;> omega
theorem Mn_att {f : Nat → Int} {s : Nat} : ∀ {k : Nat}, 0 < k → (∀ i, s ≤ i → i < s + k → f i ≤ Mx) → ∃ i, s ≤ i ∧ i < s + k ∧ Mn f s k = f i
  | 0, h, _ => absurd h (by omega)
  | k + 1, _, hf => by
    have h1 := hf (s + k) (by omega) (by omega)
    by_cases h0 : k = 0
    · subst h0
      exact ⟨s, by omega, by omega, by simp only [Mn, Nat.add_zero] at *; omega⟩
    · obtain ⟨x, h2, h3, h4⟩ := Mn_att (f := f) (s := s) (k := k) (by omega) (fun x h1 h2 => hf x h1 (by omega))
      by_cases h5 : f (s + k) ≤ Mn f s k
      · exact ⟨s + k, by omega, by omega, by rw [Mn]; omega⟩
      · exact ⟨x, h2, by omega, by rw [Mn]; omega⟩

/-- The row of k + 1 segments. -/
def rowOf (lev bef : Nat → Int) : Nat → Nat → Int
  | 0, j => bef j * need lev 0 j
  | k + 1, j => nxt lev bef (rowOf lev bef k) j

/-- Levels and places within their bounds. -/
structure Lb (lev bef : Nat → Int) (R : Nat) : Prop where
  lev0 : ∀ i, i < R → 0 ≤ lev i ∧ lev i ≤ 2199023255552
  bef0 : ∀ i, i ≤ R → 0 ≤ bef i ∧ bef i ≤ 1024
  up : ∀ i j, i ≤ j → j ≤ R → bef i ≤ bef j
  b0 : bef 0 = 0

theorem row_bd {lev bef : Nat → Int} {R : Nat} (h : Lb lev bef R) : ∀ k, Bd lev bef (rowOf lev bef k) R
  | 0 => ⟨h.lev0, h.bef0, h.up, by simp [rowOf, need], fun i hi => bmul (h.bef0 i hi).1 (h.bef0 i hi).2 (need_pos _ _ _) (need_le h.lev0 _ _ (by omega))⟩
  | k + 1 => by
    have ih := row_bd h k
    refine ⟨h.lev0, h.bef0, h.up, by simp [rowOf, nxt], fun i hi => ?_⟩
    rw [rowOf, nxt]
    by_cases h0 : i = 0
    · rw [if_pos h0]; omega
    · rw [if_neg h0]
      refine ⟨Mn_ge (by decide) (fun x h1 h2 => (cst_bd ih hi (by omega)).1), ?_⟩
      have h1 := Mn_le (f := cst lev bef (rowOf lev bef k) i) (s := 0) (k := i) 0 (by omega) (by omega)
      refine Int.le_trans h1 ?_
      unfold cst
      rw [ih.p0, h.b0]
      have := bmul (h.bef0 i hi).1 (h.bef0 i hi).2 (need_pos lev 0 (i - 0)) (need_le h.lev0 _ _ (by omega))
      rw [Int.sub_zero, Int.zero_add]
      exact this.2
theorem row_fr {lev bef : Nat → Int} {R : Nat} (h : Lb lev bef R) : ∀ j, j ≤ R → fr lev bef j = rowOf lev bef 0 j
  | 0, _ => by simp [fr, rowOf, need]
  | j + 1, hj => by
    rw [fr, rowOf, lvl_need]
    have := bmul (h.bef0 (j + 1) hj).1 (h.bef0 (j + 1) hj).2 (need_pos lev 0 (j + 1)) (need_le h.lev0 _ _ (by omega))
    generalize bef (j + 1) * need lev 0 (j + 1) = y at *
    unfold wrap64
    omega

/-- The last of the cuts of least cost. -/
structure IsCut (lev bef prev : Nat → Int) (k j a : Nat) : Prop where
  ge : k ≤ a
  lt : a < j
  le : ∀ i, k ≤ i → i < j → cst lev bef prev j a ≤ cst lev bef prev j i
  last : ∀ i, a < i → i < j → cst lev bef prev j a < cst lev bef prev j i
theorem IsCut.uniq {lev bef prev : Nat → Int} {k j a a' : Nat} (h : IsCut lev bef prev k j a) (h' : IsCut lev bef prev k j a') : a = a' := by
  have h1 := h.le a' h'.ge h'.lt
  have h2 := h'.le a h.ge h.lt
  by_cases e : a < a'
  · have := h.last a' e h'.lt; omega
  · by_cases e' : a' < a
    · have := h'.last a e' h.lt; omega
    · omega
theorem scost_eq {lev bef prev : Nat → Int} {R : Nat} (hb : Bd lev bef prev R) {i j : Nat} (hj : j ≤ R) (hi : i ≤ j) : scost lev bef prev j i (need lev i (j - i)) = cst lev bef prev j i := by
  unfold scost cst
  have h1 := hb.up i j hi hj
  have h2 := hb.bef0 i (by omega)
  have h3 := hb.bef0 j (by omega)
  have h4 := bmul (a := bef j - bef i) (x := need lev i (j - i)) (by omega) (by omega) (need_pos _ _ _) (need_le hb.lev0 _ _ (by omega))
  have h5 := hb.prev0 i (by omega)
  have h6 : wrap64 (bef j - bef i) = bef j - bef i := by unfold wrap64; omega
  rw [h6]
  generalize (bef j - bef i) * need lev i (j - i) = y at *
  unfold wrap64
  omega
theorem spl_from {lev bef prev : Nat → Int} {R j : Nat} (hb : Bd lev bef prev R) (hj : j ≤ R) : ∀ (k : Nat) (a : Nat), k ≤ j → IsCut lev bef prev k j a → ∃ a', IsCut lev bef prev 0 j a' ∧ spl lev bef prev j k (cst lev bef prev j a) a (need lev a (j - a)) (need lev k (j - k)) = ((a' : Int), need lev a' (j - a'))
  | 0, a, _, h => ⟨a, h, rfl⟩
  | i + 1, a, hk, h => by
    have e1 : mx (need lev (i + 1) (j - (i + 1))) (lev i) = need lev i (j - i) := by
      rw [show j - i = (j - (i + 1)) + 1 by omega, need_left]
    rw [spl, e1, scost_eq hb hj (by omega)]
    by_cases hlt : cst lev bef prev j i < cst lev bef prev j a
    · rw [if_pos hlt]
      refine spl_from hb hj i i (by omega) ⟨Nat.le_refl _, by omega, fun x h1 h2 => ?_, fun x h1 h2 => ?_⟩
      · by_cases e : x = i
        · subst e; omega
        · have := h.le x (by omega) h2; omega
      · have := h.le x (by omega) h2; omega
    · rw [if_neg hlt]
      refine spl_from hb hj i a (by omega) ⟨by have := h.ge; omega, h.lt, fun x h1 h2 => ?_, h.last⟩
      by_cases e : x = i
      · subst e; omega
      · exact h.le x (by omega) h2
theorem spl_ok {lev bef prev : Nat → Int} {R j : Nat} (hb : Bd lev bef prev R) (hj : j ≤ R) (hj0 : 0 < j) : ∃ a, IsCut lev bef prev 0 j a ∧ spl lev bef prev j j 9223372036854775807 0 0 0 = ((a : Int), need lev a (j - a)) := by
  obtain ⟨i, rfl⟩ : ∃ i, j = i + 1 := ⟨j - 1, by omega⟩
  have e1 : mx 0 (lev i) = need lev i (i + 1 - i) := by
    rw [show i + 1 - i = 0 + 1 by omega, need_left]
    rfl
  have hc := cst_bd hb hj (i := i) (by omega)
  rw [spl, e1, scost_eq hb hj (by omega), if_pos (by omega)]
  refine spl_from hb hj i i (by omega) ⟨Nat.le_refl _, by omega, fun x h1 h2 => ?_, fun x h1 h2 => by omega⟩
  have e : x = i := by omega
  rw [e]
  exact Int.le_refl _
/-- At the cut the cost is the next row's. -/
theorem IsCut.cost {lev bef prev : Nat → Int} {R j a : Nat} (hb : Bd lev bef prev R) (hj : j ≤ R) (h : IsCut lev bef prev 0 j a) : cst lev bef prev j a = nxt lev bef prev j := by
  have h0 := h.lt
  rw [nxt, if_neg (by omega)]
  have h1 := Mn_le (f := cst lev bef prev j) (s := 0) (k := j) a (by omega) (by omega)
  have h2 := Mn_ge (f := cst lev bef prev j) (s := 0) (k := j) (m := cst lev bef prev j a) (by have := (cst_bd hb hj (i := a) (by omega)).2; show _ ≤ (9223372036854775807 : Int); omega) (fun i h1 h2 => h.le i h1 (by omega))
  omega

/-- Where the last of k + 1 segments over the first j runs begins; its level. -/
def cutOf (lev bef : Nat → Int) (k j : Nat) : Nat × Int :=
  if k = 0 then (0, need lev 0 j) else ((spl lev bef (rowOf lev bef (k - 1)) j j 9223372036854775807 0 0 0).1.toNat, (spl lev bef (rowOf lev bef (k - 1)) j j 9223372036854775807 0 0 0).2)
/-- The level of slot s, of k segments over the first j runs. -/
def lvf (lev bef : Nat → Int) : Nat → Nat → Nat → Int
  | 0, _, _ => 0
  | k + 1, j, s => if j = 0 then 0 else if bef (cutOf lev bef k j).1 ≤ (s : Int) then (cutOf lev bef k j).2 else lvf lev bef k (cutOf lev bef k j).1 s

theorem cutOf_ok {lev bef : Nat → Int} {R : Nat} (h : Lb lev bef R) (k : Nat) {j : Nat} (hj : j ≤ R) (hj0 : 0 < j) : (cutOf lev bef k j).1 < j ∧ (cutOf lev bef k j).2 = need lev (cutOf lev bef k j).1 (j - (cutOf lev bef k j).1) ∧ (k = 0 → (cutOf lev bef k j).1 = 0) ∧ (0 < k → IsCut lev bef (rowOf lev bef (k - 1)) 0 j (cutOf lev bef k j).1) := by
  unfold cutOf
  by_cases h0 : k = 0
  · rw [if_pos h0]
    exact ⟨hj0, rfl, fun _ => rfl, fun h => absurd h (by omega)⟩
  · rw [if_neg h0]
    obtain ⟨a, h1, h2⟩ := spl_ok (row_bd h (k - 1)) hj hj0
    rw [h2]
    refine ⟨h1.lt, rfl, fun e => absurd e (by omega), fun _ => h1⟩

/-! ### A shift of every need -/
section
variable {lev bef : Nat → Int} {R : Nat} {c : Int}
theorem cst_shift (h : Lb lev bef R) (hc : 0 ≤ c) (k j i : Nat) (hj : j ≤ R) (hi : i < j) (hr : rowOf (fun i => lev i + c) bef k i = rowOf lev bef k i + c * bef i) : cst (fun i => lev i + c) bef (rowOf (fun i => lev i + c) bef k) j i = cst lev bef (rowOf lev bef k) j i + c * bef j := by
  unfold cst
  rw [hr, need_shift lev c hc i (j - i) (by omega) (fun x h1 h2 => (h.lev0 x (by omega)).1), Int.mul_add, Int.sub_mul (bef j) (bef i) c, Int.mul_comm c (bef i), Int.mul_comm c (bef j)]
  omega
theorem row_shift (h : Lb lev bef R) (h' : Lb (fun i => lev i + c) bef R) (hc : 0 ≤ c) : ∀ k j, j ≤ R → rowOf (fun i => lev i + c) bef k j = rowOf lev bef k j + c * bef j
  | 0, j, hj => by
    rw [rowOf, rowOf]
    by_cases h0 : j = 0
    · subst h0; rw [h.b0]; simp
    · rw [need_shift lev c hc 0 j (by omega) (fun x h1 h2 => (h.lev0 x (by omega)).1), Int.mul_add, Int.mul_comm c]
  | k + 1, j, hj => by
    rw [rowOf, rowOf, nxt, nxt]
    by_cases h0 : j = 0
    · subst h0; rw [if_pos rfl, if_pos rfl, h.b0]; simp
    · rw [if_neg h0, if_neg h0]
      refine Mn_shift (c * bef j) (by omega) (fun i h1 h2 => ?_) (fun i h1 h2 => ?_)
      · exact cst_shift h hc k j i hj (by omega) (row_shift h h' hc k i (by omega))
      · have h3 := cst_bd (row_bd h k) hj (i := i) (by omega)
        have h4 := cst_bd (row_bd h' k) hj (i := i) (by omega)
        rw [cst_shift h hc k j i hj (by omega) (row_shift h h' hc k i (by omega))] at h4
        constructor <;> (show _ ≤ (9223372036854775807 : Int)) <;> omega
theorem cutOf_shift (h : Lb lev bef R) (h' : Lb (fun i => lev i + c) bef R) (hc : 0 ≤ c) (k : Nat) {j : Nat} (hj : j ≤ R) (hj0 : 0 < j) : cutOf (fun i => lev i + c) bef k j = ((cutOf lev bef k j).1, (cutOf lev bef k j).2 + c) := by
  obtain ⟨a1, a2, a3, a4⟩ := cutOf_ok h k hj hj0
  obtain ⟨b1, b2, b3, b4⟩ := cutOf_ok h' k hj hj0
  have e : (cutOf (fun i => lev i + c) bef k j).1 = (cutOf lev bef k j).1 := by
    by_cases h0 : k = 0
    · rw [a3 h0, b3 h0]
    · refine IsCut.uniq (b4 (by omega)) ?_
      have q := a4 (by omega)
      have hs : ∀ i, i < j → cst (fun i => lev i + c) bef (rowOf (fun i => lev i + c) bef (k - 1)) j i = cst lev bef (rowOf lev bef (k - 1)) j i + c * bef j := fun i hi => cst_shift h hc (k - 1) j i hj hi (row_shift h h' hc (k - 1) i (by omega))
      refine ⟨q.ge, q.lt, fun i h1 h2 => ?_, fun i h1 h2 => ?_⟩
      · rw [hs _ q.lt, hs _ h2]; have := q.le i h1 h2; omega
      · rw [hs _ q.lt, hs _ h2]; have := q.last i h1 h2; omega
  refine Prod.ext e ?_
  rw [b2, e, a2]
  exact need_shift lev c hc _ _ (by omega) (fun x h1 h2 => (h.lev0 x (by omega)).1)
theorem lvf_shift (h : Lb lev bef R) (h' : Lb (fun i => lev i + c) bef R) (hc : 0 ≤ c) : ∀ (k j s : Nat), 0 < k → j ≤ R → (s : Int) < bef j → lvf (fun i => lev i + c) bef k j s = lvf lev bef k j s + c
  | 0, j, s, hk, _, _ => absurd hk (by omega)
  | k + 1, j, s, _, hj, hs => by
    have hj0 : 0 < j := by
      rcases Nat.eq_zero_or_pos j with e | e
      · subst e; rw [h.b0] at hs; omega
      · exact e
    obtain ⟨a1, a2, a3, a4⟩ := cutOf_ok h k hj hj0
    have hjn : ¬ j = 0 := by omega
    rw [lvf, lvf, if_neg hjn, if_neg hjn, cutOf_shift h h' hc k hj hj0]
    by_cases hb : bef (cutOf lev bef k j).1 ≤ (s : Int)
    · rw [if_pos hb, if_pos hb]
    · rw [if_neg hb, if_neg hb]
      have hk : 0 < k := by
        rcases Nat.eq_zero_or_pos k with e | e
        · rw [a3 e, h.b0] at hb; omega
        · exact e
      exact lvf_shift h h' hc k (cutOf lev bef k j).1 s hk (by omega) (Int.not_le.1 hb)
end
end Go.Proofs.Qxb6614303a

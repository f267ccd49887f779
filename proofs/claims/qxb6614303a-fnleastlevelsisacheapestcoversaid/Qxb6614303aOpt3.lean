/-
  Seat b6614303a. The runs and the distinct needs that newPartition makes, without Go.
-/
import Derived.Test.Qxb6614303aOpt2
import Derived.Test.Qxb6614303aNew2
namespace Go.Proofs.Qxb6614303a
open Go.RowKit
set_option linter.unusedVariables false

/-- The runs' needs and where they begin, as functions. -/
def levO (zs : Nat → Int) (k r : Nat) : Int := (runs zs k).1.getD r (zs 0)
def beO (zs : Nat → Int) (k r : Nat) : Nat := (((runs zs k).2 ++ [(k : Int)]).getD r 0).toNat
abbrev runsN (zs : Nat → Int) (k : Nat) : Nat := (runs zs k).1.length

theorem getD_app_lt {α : Type} {l m : List α} {r : Nat} {d : α} (h : r < l.length) : (l ++ m).getD r d = l.getD r d := by
  simp [List.getD, List.getElem?_append_left h]
theorem getD_app_eq {α : Type} {l : List α} {x d : α} {r : Nat} (h : r = l.length) : (l ++ [x]).getD r d = x := by
  subst h
  simp [List.getD]
theorem getD_irr {α : Type} {l : List α} {r : Nat} {d e : α} (h : r < l.length) : l.getD r d = l.getD r e := by
  simp [List.getD, List.getElem?_eq_getElem h]
theorem runs_nn (zs : Nat → Int) : ∀ k, ∀ x ∈ (runs zs k).2, 0 ≤ x
  | 0 => by simp [runs]
  | k + 1 => by
    unfold runs
    split
    · intro x hx
      rcases List.mem_append.1 hx with h | h
      · exact runs_nn zs k x h
      · simp at h; omega
    · exact runs_nn zs k
theorem beO_eq (zs : Nat → Int) (k r : Nat) : ((runs zs k).2 ++ [(k : Int)]).getD r 0 = (beO zs k r : Int) := by
  unfold beO
  have : 0 ≤ ((runs zs k).2 ++ [(k : Int)]).getD r 0 := by
    by_cases h : r < ((runs zs k).2 ++ [(k : Int)]).length
    · rw [List.getD, List.getElem?_eq_getElem h]
      simp only [Option.getD_some]
      have hm := List.getElem_mem h
      rcases List.mem_append.1 hm with h1 | h1
      · exact runs_nn zs k _ h1
      · have := List.mem_singleton.1 h1; omega
    · rw [List.getD, List.getElem?_eq_none (by omega)]
      simp
  omega
theorem beO_lt {zs : Nat → Int} {k r : Nat} (h : r < runsN zs k) : beO zs k r = ((runs zs k).2.getD r 0).toNat := by
  unfold beO
  rw [getD_app_lt (by have := (runs_len zs k).2; simp only [runsN] at h; omega)]
theorem beO_at {zs : Nat → Int} {k r : Nat} (h : r = runsN zs k) : beO zs k r = k := by
  unfold beO
  rw [getD_app_eq (by have := (runs_len zs k).2; simp only [runsN] at h; omega)]
  simp
theorem runs_ok (zs : Nat → Int) : ∀ k, RunsOK zs k (levO zs k) (beO zs k) (runsN zs k)
  | 0 => ⟨rfl, rfl, fun r hr => absurd hr (by simp [runsN, runs]), fun r hr => absurd hr (by simp [runsN, runs])⟩
  | k + 1 => by
    have ih := runs_ok zs k
    have hlen := (runs_len zs k).2
    by_cases hc : k = 0 ∨ zs k ≠ zs (k - 1)
    · have e1 : runs zs (k + 1) = ((runs zs k).1 ++ [zs k], (runs zs k).2 ++ [(k : Int)]) := by rw [runs, if_pos hc]
      have eN : runsN zs (k + 1) = runsN zs k + 1 := by simp [runsN, e1]
      have eb : ∀ r, r ≤ runsN zs k → beO zs (k + 1) r = beO zs k r := by
        intro r hr
        unfold beO
        rw [e1]
        show (((((runs zs k).2 ++ [(k : Int)]) ++ [((k + 1 : Nat) : Int)]).getD r 0).toNat) = _
        rw [getD_app_lt (l := (runs zs k).2 ++ [(k : Int)]) (by simp only [runsN] at hr; simp; omega)]
      have el : ∀ r, r < runsN zs k → levO zs (k + 1) r = levO zs k r := by
        intro r hr
        unfold levO
        rw [e1]
        exact getD_app_lt hr
      have el1 : levO zs (k + 1) (runsN zs k) = zs k := by
        unfold levO
        rw [e1]
        exact getD_app_eq rfl
      have eb1 : beO zs (k + 1) (runsN zs k + 1) = k + 1 := beO_at eN.symm
      have eb0 : beO zs k (runsN zs k) = k := ih.bR
      rw [eN]
      refine ⟨by rw [eb 0 (by omega)]; exact ih.b0, eb1, fun r hr => ?_, fun r hr s h1 h2 => ?_⟩
      · by_cases e : r = runsN zs k
        · rw [e, eb1, eb _ (Nat.le_refl _), eb0]; omega
        · rw [eb r (by omega), eb (r + 1) (by omega)]
          exact ih.lt r (by omega)
      · by_cases e : r = runsN zs k
        · rw [e] at h1 h2 ⊢
          rw [eb1] at h2
          rw [eb _ (Nat.le_refl _), eb0] at h1
          rw [el1, show s = k by omega]
        · rw [eb r (by omega)] at h1
          rw [eb (r + 1) (by omega)] at h2
          rw [el r (by omega)]
          exact ih.val r (by omega) s h1 h2
    · have e1 : runs zs (k + 1) = runs zs k := by rw [runs, if_neg hc]
      have hk0 : ¬ k = 0 := fun e => hc (.inl e)
      have hz : zs k = zs (k - 1) := by
        by_cases e : zs k = zs (k - 1)
        · exact e
        · exact absurd (.inr e) hc
      have hp : 0 < runsN zs k := runs_pos zs k (by omega)
      have eN : runsN zs (k + 1) = runsN zs k := by simp [runsN, e1]
      have eb : ∀ r, r < runsN zs k → beO zs (k + 1) r = beO zs k r := by
        intro r hr
        rw [beO_lt hr, beO_lt (by rw [eN]; exact hr), e1]
      have el : ∀ r, levO zs (k + 1) r = levO zs k r := by
        intro r
        unfold levO
        rw [e1]
      have eb1 : beO zs (k + 1) (runsN zs k) = k + 1 := beO_at eN.symm
      have eb0 : beO zs k (runsN zs k) = k := ih.bR
      rw [eN]
      refine ⟨by rw [eb 0 hp]; exact ih.b0, eb1, fun r hr => ?_, fun r hr s h1 h2 => ?_⟩
      · have := ih.lt r hr
        by_cases e : r + 1 = runsN zs k
        · rw [e, eb1, eb r hr]; rw [e, eb0] at this; omega
        · rw [eb r hr, eb (r + 1) (by omega)]; exact this
      · have hl := ih.lt r hr
        rw [eb r hr] at h1
        rw [el r]
        by_cases e : r + 1 = runsN zs k
        · rw [e, eb1] at h2
          rw [e, eb0] at hl
          by_cases e2 : s = k
          · rw [e2, hz]
            exact ih.val r hr (k - 1) (by omega) (by rw [e, eb0]; omega)
          · exact ih.val r hr s h1 (by rw [e, eb0]; omega)
        · rw [eb (r + 1) (by omega)] at h2
          exact ih.val r hr s h1 h2

/-! ### A shift of every need -/
theorem runs_shift (zs : Nat → Int) (c : Int) : ∀ k, runs (fun s => zs s + c) k = ((runs zs k).1.map (· + c), (runs zs k).2)
  | 0 => rfl
  | k + 1 => by
    rw [runs, runs, runs_shift zs c k]
    by_cases h : k = 0 ∨ zs k ≠ zs (k - 1)
    · rw [if_pos h, if_pos (h.imp id (fun h => by omega))]
      simp
    · rw [if_neg h, if_neg (fun h2 => h (h2.imp id (fun h => by omega)))]
theorem levO_shift (zs : Nat → Int) (c : Int) (k : Nat) : levO (fun s => zs s + c) k = fun r => levO zs k r + c := by
  funext r
  unfold levO
  rw [runs_shift]
  simp only [List.getD, List.getElem?_map]
  cases (runs zs k).1[r]? <;> rfl
theorem beO_shift (zs : Nat → Int) (c : Int) (k : Nat) : beO (fun s => zs s + c) k = beO zs k := by
  funext r
  unfold beO
  rw [runs_shift]
theorem runsN_shift (zs : Nat → Int) (c : Int) (k : Nat) : runsN (fun s => zs s + c) k = runsN zs k := by
  unfold runsN
  rw [runs_shift]
  simp

/-! ### The distinct needs -/
theorem compact_mem (d : Array Int) : ∀ m j, j < m → d[j]! ∈ Lib.compactUpTo d m
  | 0, j, h => absurd h (by omega)
  | m + 1, j, h => by
    rw [Lib.compactUpTo_succ]
    by_cases e : j = m
    · subst e
      by_cases hk : Lib.keeps d j = true
      · rw [if_pos hk]; simp
      · have hk2 : j ≠ 0 ∧ d[j]! = d[j - 1]! := by
          unfold Lib.keeps at hk
          simp at hk
          exact hk
        have ih := compact_mem d j (j - 1) (by omega)
        rw [hk2.2]
        exact List.mem_append_left _ ih
    · exact List.mem_append_left _ (compact_mem d m j (by omega))
theorem dist_mem {L : List Int} {x : Int} (h : x ∈ L) : x ∈ dist L := by
  have h1 : x ∈ L.mergeSort fun x y => decide (x ≤ y) := List.mem_mergeSort.2 h
  unfold dist
  generalize (L.mergeSort fun x y => decide (x ≤ y)) = S at h1
  obtain ⟨j, hj, e⟩ := List.getElem_of_mem h1
  have := compact_mem S.toArray S.length j hj
  unfold Lib.compact
  rw [show S.toArray[j]! = x by simp [hj, e]] at this
  exact this
theorem mem_dist {L : List Int} {x : Int} (h : x ∈ dist L) : x ∈ L := by
  unfold dist Lib.compact Lib.compactUpTo at h
  obtain ⟨j, hj, e⟩ := List.mem_map.1 h
  have hj2 := List.mem_range.1 (List.mem_filter.1 hj).1
  rw [← e]
  refine (List.mem_mergeSort (le := fun x y => decide (x ≤ y))).1 ?_
  generalize (L.mergeSort fun x y => decide (x ≤ y)) = S at *
  have : S.toArray[j]! = S[j] := by simp [hj2]
  rw [this]
  exact List.getElem_mem hj2
theorem dist_len (L : List Int) : (dist L).length ≤ L.length := by
  unfold dist
  refine Nat.le_trans (Lib.compact_length_le _) ?_
  rw [List.length_mergeSort]
  exact Nat.le_refl _
theorem count_at {x : Int} : ∀ {l : List Int}, l.Pairwise (· ≤ ·) → x ∈ l → l.countP (· < x) < l.length ∧ l.getD (l.countP (· < x)) 0 = x
  | [], _, h => by simp at h
  | a :: l, hs, h => by
    rw [List.pairwise_cons] at hs
    by_cases ha : a < x
    · have hx : x ∈ l := by
        rcases List.mem_cons.1 h with e | e
        · omega
        · exact e
      have ih := count_at hs.2 hx
      rw [List.countP_cons_of_pos (by simpa using ha)]
      simpa using ih
    · have hax : a = x := by
        rcases List.mem_cons.1 h with e | e
        · exact e.symm
        · have := hs.1 x e; omega
      rw [List.countP_cons_of_neg (by simpa using ha)]
      have h0 : l.countP (· < x) = 0 := by
        rw [List.countP_eq_zero]
        intro y hy
        have := hs.1 y hy
        simp; omega
      rw [h0]
      simp [hax]
/-- The distinct needs and the runs' places among them. -/
def disO (zs : Nat → Int) (n p : Nat) : Int := (dist (runs zs n).1).getD p 0
def latO (zs : Nat → Int) (n q : Nat) : Nat := (dist (runs zs n).1).countP (· < (runs zs n).1.getD q 0)
theorem lat_ok (zs : Nat → Int) (n i : Nat) (hi : i < runsN zs n) : latO zs n i < (dist (runs zs n).1).length ∧ disO zs n (latO zs n i) = levO zs n i := by
  unfold disO latO levO
  have hm : (runs zs n).1.getD i 0 ∈ dist (runs zs n).1 := by
    refine dist_mem ?_
    rw [List.getD, List.getElem?_eq_getElem hi]
    exact List.getElem_mem hi
  rw [getD_irr (d := zs 0) (e := 0) hi]
  exact count_at (dist_sorted _) hm
theorem dis_up (zs : Nat → Int) (n : Nat) : Up (disO zs n) (dist (runs zs n).1).length := by
  intro i j hij hj
  unfold disO
  rw [List.getD, List.getD, List.getElem?_eq_getElem hj, List.getElem?_eq_getElem (by omega : i < _)]
  simp only [Option.getD_some]
  rcases Nat.lt_or_eq_of_le hij with h | h
  · exact List.pairwise_iff_getElem.1 (dist_sorted _) i j (by omega) hj h
  · subst h; exact Int.le_refl _
theorem dis_bd {zs : Nat → Int} {n : Nat} (hl : ∀ i, i < runsN zs n → 0 ≤ levO zs n i ∧ levO zs n i ≤ 2199023255552) : ∀ p, p < (dist (runs zs n).1).length → 0 ≤ disO zs n p ∧ disO zs n p ≤ 2199023255552 := by
  intro p hp
  unfold disO
  rw [List.getD, List.getElem?_eq_getElem hp]
  simp only [Option.getD_some]
  obtain ⟨i, hi, e⟩ := List.getElem_of_mem (mem_dist (List.getElem_mem hp))
  have := hl i hi
  unfold levO at this
  rw [List.getD, List.getElem?_eq_getElem hi] at this
  simp only [Option.getD_some] at this
  rw [← e]
  exact this
theorem dis_pos {zs : Nat → Int} {n : Nat} (h : 0 < runsN zs n) : 0 < (dist (runs zs n).1).length := by
  have := (lat_ok zs n 0 h).1
  omega
end Go.Proofs.Qxb6614303a

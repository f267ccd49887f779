/-
  Seat b6614303a. Plain laws: lines, the insertion into a tree.
-/
import Derived.Test.Qxb6614303aTree
namespace Go.Proofs.Qxb6614303a
open Go.RowKit
set_option linter.unusedVariables false

/-! ### Lines -/
theorem line_between {a b c d x1 x x2 : Int} (h1 : x1 ≤ x) (h2 : x ≤ x2) (hA : c + d * x1 ≤ a + b * x1) (hB : c + d * x2 ≤ a + b * x2) : c + d * x ≤ a + b * x := by
  have e1 : ∀ y : Int, a + b * y - (c + d * y) = (a - c) + (b - d) * y := fun y => by rw [Int.sub_mul]; omega
  have q1 := e1 x1
  have q := e1 x
  have q2 := e1 x2
  by_cases hE : 0 ≤ b - d
  · have := Int.mul_le_mul_of_nonneg_left h1 hE
    omega
  · have := Int.mul_le_mul_of_nonneg_left h2 (show 0 ≤ d - b by omega)
    have r1 : (d - b) * x = - ((b - d) * x) := by rw [← Int.neg_mul]; congr 1; omega
    have r2 : (d - b) * x2 = - ((b - d) * x2) := by rw [← Int.neg_mul]; congr 1; omega
    omega
theorem line_right {a b c d x1 x2 x : Int} (h1 : x1 ≤ x2) (h2 : x2 ≤ x) (hA : a + b * x1 < c + d * x1) (hB : c + d * x2 ≤ a + b * x2) : c + d * x ≤ a + b * x := by
  have e1 : ∀ y : Int, a + b * y - (c + d * y) = (a - c) + (b - d) * y := fun y => by rw [Int.sub_mul]; omega
  have q1 := e1 x1
  have q := e1 x
  have q2 := e1 x2
  by_cases hE : 0 ≤ b - d
  · have := Int.mul_le_mul_of_nonneg_left h2 hE
    omega
  · have := Int.mul_le_mul_of_nonneg_left h1 (show 0 ≤ d - b by omega)
    have r1 : (d - b) * x1 = - ((b - d) * x1) := by rw [← Int.neg_mul]; congr 1; omega
    have r2 : (d - b) * x2 = - ((b - d) * x2) := by rw [← Int.neg_mul]; congr 1; omega
    omega
theorem line_left {a b c d x x1 x2 : Int} (h1 : x ≤ x1) (h2 : x1 ≤ x2) (hA : c + d * x1 ≤ a + b * x1) (hB : a + b * x2 < c + d * x2) : c + d * x ≤ a + b * x := by
  have e1 : ∀ y : Int, a + b * y - (c + d * y) = (a - c) + (b - d) * y := fun y => by rw [Int.sub_mul]; omega
  have q1 := e1 x1
  have q := e1 x
  have q2 := e1 x2
  by_cases hE : 0 ≤ b - d
  · have := Int.mul_le_mul_of_nonneg_left h2 hE
    omega
  · have := Int.mul_le_mul_of_nonneg_left h1 (show 0 ≤ d - b by omega)
    have r1 : (d - b) * x = - ((b - d) * x) := by rw [← Int.neg_mul]; congr 1; omega
    have r2 : (d - b) * x1 = - ((b - d) * x1) := by rw [← Int.neg_mul]; congr 1; omega
    omega

/-- A line that does not overflow at the first n points. -/
def Good (xs : Nat → Int) (n : Nat) (a b : Int) : Prop := ∀ p, p < n → evl a b (xs p) = a + b * xs p
/-- The points grow. -/
def Up (xs : Nat → Int) (n : Nat) : Prop := ∀ i j, i ≤ j → j < n → xs i ≤ xs j

/-! ### Trees -/
def T.all (G : Int → Int → Prop) : T → Prop
  | .nil => True
  | .node _ a b l r => G a b ∧ l.all G ∧ r.all G
def T.size : T → Nat
  | .nil => 0
  | .node _ _ _ l r => l.size + r.size + 1

theorem mn_eq (a v : Int) : mn a v = min a v := by
  unfold mn
  split <;> omega
theorem lst_min (xs : Nat → Int) : ∀ (t : T) (lo hi p : Nat) (a c : Int), lst xs t lo hi p (min a c) = min a (lst xs t lo hi p c)
  | .nil, lo, hi, p, a, c => rfl
  | .node i x y l r, lo, hi, p, a, c => by
    simp only [lst, mn_eq]
    rw [show min (min a c) (evl x y (xs p)) = min a (min c (evl x y (xs p))) by omega]
    split
    · exact lst_min xs l _ _ _ _ _
    · exact lst_min xs r _ _ _ _ _

theorem Rep.congr {nds nds' : List Nd} (hl : nds.length ≤ nds'.length) : ∀ (t : T) (lo hi : Nat), (∀ j ∈ t.ids, ndAt nds' j = ndAt nds j) → Rep nds t lo hi → Rep nds' t lo hi
  | .nil, _, _, _, _ => trivial
  | .node i a b l r, lo, hi, h, ⟨h1, h2, h3, h4, h5, h6⟩ =>
    ⟨(h i (by simp [T.ids])).trans h1, by omega, h3, h4, Rep.congr hl l _ _ (fun j hj => h j (by simp [T.ids, hj])) h5, Rep.congr hl r _ _ (fun j hj => h j (by simp [T.ids, hj])) h6⟩
theorem Rep.lt {nds : List Nd} : ∀ (t : T) (lo hi : Nat), Rep nds t lo hi → ∀ j ∈ t.ids, j < nds.length
  | .nil, _, _, _, j, hj => by simp [T.ids] at hj
  | .node i a b l r, lo, hi, ⟨h1, h2, h3, h4, h5, h6⟩, j, hj => by
    simp only [T.ids, List.mem_cons, List.mem_append] at hj
    rcases hj with rfl | hj | hj
    · exact h2
    · exact Rep.lt l _ _ h5 j hj
    · exact Rep.lt r _ _ h6 j hj

/-- What an insertion leaves, of the tree. -/
structure InsT (xs : Nat → Int) (n : Nat) (t : T) (nds nds' : List Nd) (lo hi : Nat) (a b : Int) (t' : T) : Prop where
  rep : Rep nds' t' lo hi
  root : t'.root = t.root
  nodup : t'.ids.Nodup
  ids : ∀ j ∈ t'.ids, j ∈ t.ids ∨ j = nds.length
  len : nds.length ≤ nds'.length
  len1 : nds'.length ≤ nds.length + 1
  same : ∀ j, j < nds.length → j ∉ t.ids → ndAt nds' j = ndAt nds j
  good : t'.all (Good xs n)
  sz : t'.size ≤ t.size + 1
  val : ∀ p, lo ≤ p → p ≤ hi → ∀ c, lst xs t' lo hi p c = min (lst xs t lo hi p c) (evl a b (xs p))

theorem ndAt_app {nds : List Nd} (d : Nd) {j : Nat} (hj : j < nds.length) : ndAt (nds ++ [d]) j = ndAt nds j := by
  unfold ndAt
  rw [List.getD, List.getD, List.getElem?_append_left hj]
theorem ndAt_new (nds : List Nd) (d : Nd) : ndAt (nds ++ [d]) nds.length = d := by
  unfold ndAt
  rw [List.getD, List.getElem?_append_right (Nat.le_refl _)]
  simp


theorem ids_nd {i : Nat} {a b : Int} {l r : T} (h : (T.node i a b l r).ids.Nodup) : i ∉ l.ids ∧ i ∉ r.ids ∧ l.ids.Nodup ∧ r.ids.Nodup ∧ (∀ j ∈ l.ids, j ∉ r.ids) := by
  simp only [T.ids, List.nodup_cons, List.mem_append, not_or, List.nodup_append] at h
  exact ⟨h.1.1, h.1.2, h.2.1, h.2.2.1, fun j hj hk => h.2.2.2 j hj j hk rfl⟩
theorem nd_ids {i : Nat} {a b : Int} {l r : T} (h1 : i ∉ l.ids) (h2 : i ∉ r.ids) (h3 : l.ids.Nodup) (h4 : r.ids.Nodup) (h5 : ∀ j ∈ l.ids, j ∉ r.ids) : (T.node i a b l r).ids.Nodup := by
  simp only [T.ids, List.nodup_cons, List.mem_append, not_or, List.nodup_append]
  exact ⟨⟨h1, h2⟩, h3, h4, fun j hj k hk e => h5 j hj (e ▸ hk)⟩

section
variable {xs : Nat → Int} {n : Nat} {i : Nat} {na nb a b ka kb la lb : Int} {l r : T} {nds nds3 : List Nd} {lo hi mid : Nat}

theorem asmL (hup : Up xs n) (hm : (lo + hi) / 2 = mid) (hlh : lo < hi) (hhn : hi < n) (hr : Rep nds (.node i na nb l r) lo hi) (hnd : (T.node i na nb l r).ids.Nodup) (hg : (T.node i na nb l r).all (Good xs n)) (hgk : Good xs n ka kb) (hgl : Good xs n la lb)
    (hmin : ∀ p, p < n → min (evl ka kb (xs p)) (evl la lb (xs p)) = min (evl na nb (xs p)) (evl a b (xs p))) (hmid : evl ka kb (xs mid) ≤ evl la lb (xs mid)) (hL : evl la lb (xs lo) < evl ka kb (xs lo))
    {tl : T} (h1 : ndAt nds3 i = ⟨ka, kb, tl.root, r.root⟩) (h2 : Rep nds3 tl lo mid) (h3 : nds.length ≤ nds3.length) (h3' : nds3.length ≤ nds.length + 1) (h4 : tl.ids.Nodup) (h5 : ∀ j ∈ tl.ids, j ∈ l.ids ∨ j = nds.length)
    (h6 : ∀ j, j < nds.length → j ≠ i → j ∉ l.ids → ndAt nds3 j = ndAt nds j) (h7 : tl.all (Good xs n)) (h9 : tl.size ≤ l.size + 1) (h8 : ∀ p, lo ≤ p → p ≤ mid → ∀ c, lst xs tl lo mid p c = min (lst xs l lo mid p c) (evl la lb (xs p))) :
    InsT xs n (.node i na nb l r) nds nds3 lo hi a b (.node i ka kb tl r) := by
  obtain ⟨r1, r2, r3, r4, r5, r6⟩ := hr
  obtain ⟨d1, d2, d3, d4, d5⟩ := ids_nd hnd
  rw [hm] at r5 r6
  have rl := Rep.lt r _ _ r6
  have hR : Rep nds3 r (mid + 1) hi := Rep.congr h3 r _ _ (fun j hj => h6 j (rl j hj) (fun e => d2 (e ▸ hj)) (fun e => d5 j e hj)) r6
  refine ⟨⟨h1, by omega, r3, fun e => by omega, by rw [hm]; exact h2, by rw [hm]; exact hR⟩, rfl, ?_, ?_, h3, h3', ?_, ⟨hgk, h7, hg.2.2⟩, by simp only [T.size]; omega, ?_⟩
  · refine nd_ids (fun e => ?_) d2 h4 d4 (fun j hj hk => ?_)
    · rcases h5 i e with h | h
      · exact d1 h
      · omega
    · rcases h5 j hj with h | h
      · exact d5 j h hk
      · have := rl j hk
        omega
  · intro j hj
    simp only [T.ids, List.mem_cons, List.mem_append] at hj ⊢
    rcases hj with hj | hj | hj
    · exact .inl (.inl hj)
    · rcases h5 j hj with h | h
      · exact .inl (.inr (.inl h))
      · exact .inr h
    · exact .inl (.inr (.inr hj))
  · intro j hj hn
    simp only [T.ids, List.mem_cons, List.mem_append, not_or] at hn
    exact h6 j hj hn.1 hn.2.1
  · intro p hp1 hp2 c
    have e := hmin p (by omega)
    simp only [lst, hm, mn_eq]
    by_cases hp : p ≤ mid
    · rw [if_pos hp, if_pos hp, h8 p hp1 hp, show min c (evl ka kb (xs p)) = min (evl ka kb (xs p)) c by omega, show min c (evl na nb (xs p)) = min (evl na nb (xs p)) c by omega, lst_min, lst_min]
      omega
    · rw [if_neg hp, if_neg hp, show min c (evl ka kb (xs p)) = min (evl ka kb (xs p)) c by omega, show min c (evl na nb (xs p)) = min (evl na nb (xs p)) c by omega, lst_min, lst_min]
      have q : evl ka kb (xs p) ≤ evl la lb (xs p) := by
        rw [hgk _ (by omega), hgl _ (by omega)] at *
        exact line_right (hup lo mid (by omega) (by omega)) (hup mid p (by omega) (by omega)) hL hmid
      omega

theorem asmR (hup : Up xs n) (hm : (lo + hi) / 2 = mid) (hlh : lo < hi) (hhn : hi < n) (hr : Rep nds (.node i na nb l r) lo hi) (hnd : (T.node i na nb l r).ids.Nodup) (hg : (T.node i na nb l r).all (Good xs n)) (hgk : Good xs n ka kb) (hgl : Good xs n la lb)
    (hmin : ∀ p, p < n → min (evl ka kb (xs p)) (evl la lb (xs p)) = min (evl na nb (xs p)) (evl a b (xs p))) (hmid : evl ka kb (xs mid) ≤ evl la lb (xs mid)) (hR : evl la lb (xs hi) < evl ka kb (xs hi))
    {tr : T} (h1 : ndAt nds3 i = ⟨ka, kb, l.root, tr.root⟩) (h2 : Rep nds3 tr (mid + 1) hi) (h3 : nds.length ≤ nds3.length) (h3' : nds3.length ≤ nds.length + 1) (h4 : tr.ids.Nodup) (h5 : ∀ j ∈ tr.ids, j ∈ r.ids ∨ j = nds.length)
    (h6 : ∀ j, j < nds.length → j ≠ i → j ∉ r.ids → ndAt nds3 j = ndAt nds j) (h7 : tr.all (Good xs n)) (h9 : tr.size ≤ r.size + 1) (h8 : ∀ p, mid + 1 ≤ p → p ≤ hi → ∀ c, lst xs tr (mid + 1) hi p c = min (lst xs r (mid + 1) hi p c) (evl la lb (xs p))) :
    InsT xs n (.node i na nb l r) nds nds3 lo hi a b (.node i ka kb l tr) := by
  obtain ⟨r1, r2, r3, r4, r5, r6⟩ := hr
  obtain ⟨d1, d2, d3, d4, d5⟩ := ids_nd hnd
  rw [hm] at r5 r6
  have rl := Rep.lt l _ _ r5
  have hL : Rep nds3 l lo mid := Rep.congr h3 l _ _ (fun j hj => h6 j (rl j hj) (fun e => d1 (e ▸ hj)) (fun e => d5 j hj e)) r5
  refine ⟨⟨h1, by omega, r3, fun e => by omega, by rw [hm]; exact hL, by rw [hm]; exact h2⟩, rfl, ?_, ?_, h3, h3', ?_, ⟨hgk, hg.2.1, h7⟩, by simp only [T.size]; omega, ?_⟩
  · refine nd_ids d1 (fun e => ?_) d3 h4 (fun j hj hk => ?_)
    · rcases h5 i e with h | h
      · exact d2 h
      · omega
    · rcases h5 j hk with h | h
      · exact d5 j hj h
      · have := rl j hj
        omega
  · intro j hj
    simp only [T.ids, List.mem_cons, List.mem_append] at hj ⊢
    rcases hj with hj | hj | hj
    · exact .inl (.inl hj)
    · exact .inl (.inr (.inl hj))
    · rcases h5 j hj with h | h
      · exact .inl (.inr (.inr h))
      · exact .inr h
  · intro j hj hn
    simp only [T.ids, List.mem_cons, List.mem_append, not_or] at hn
    exact h6 j hj hn.1 hn.2.2
  · intro p hp1 hp2 c
    have e := hmin p (by omega)
    simp only [lst, hm, mn_eq]
    by_cases hp : p ≤ mid
    · rw [if_pos hp, if_pos hp, show min c (evl ka kb (xs p)) = min (evl ka kb (xs p)) c by omega, show min c (evl na nb (xs p)) = min (evl na nb (xs p)) c by omega, lst_min, lst_min]
      have q : evl ka kb (xs p) ≤ evl la lb (xs p) := by
        rw [hgk _ (by omega), hgl _ (by omega)] at *
        exact line_left (hup p mid (by omega) (by omega)) (hup mid hi (by omega) (by omega)) hmid hR
      omega
    · rw [if_neg hp, if_neg hp, h8 p (by omega) hp2, show min c (evl ka kb (xs p)) = min (evl ka kb (xs p)) c by omega, show min c (evl na nb (xs p)) = min (evl na nb (xs p)) c by omega, lst_min, lst_min]
      omega

/-- The line that goes on is nowhere less. -/
theorem asmN (hup : Up xs n) (hm : (lo + hi) / 2 = mid) (hhn : hi < n) (hr : Rep nds (.node i na nb l r) lo hi) (hnd : (T.node i na nb l r).ids.Nodup) (hg : (T.node i na nb l r).all (Good xs n)) (hgk : Good xs n ka kb)
    (hmin : ∀ p, p < n → min (evl ka kb (xs p)) (evl la lb (xs p)) = min (evl na nb (xs p)) (evl a b (xs p))) (hle : ∀ p, lo ≤ p → p ≤ hi → evl ka kb (xs p) ≤ evl la lb (xs p))
    (h1 : ndAt nds3 i = ⟨ka, kb, l.root, r.root⟩) (h3 : nds3.length = nds.length) (h6 : ∀ j, j < nds.length → j ≠ i → ndAt nds3 j = ndAt nds j) :
    InsT xs n (.node i na nb l r) nds nds3 lo hi a b (.node i ka kb l r) := by
  obtain ⟨r1, r2, r3, r4, r5, r6⟩ := hr
  obtain ⟨d1, d2, d3, d4, d5⟩ := ids_nd hnd
  have rl := Rep.lt l _ _ r5
  have rr := Rep.lt r _ _ r6
  refine ⟨⟨h1, by omega, r3, r4, Rep.congr (by omega) l _ _ (fun j hj => h6 j (rl j hj) (fun e => d1 (e ▸ hj))) r5, Rep.congr (by omega) r _ _ (fun j hj => h6 j (rr j hj) (fun e => d2 (e ▸ hj))) r6⟩, rfl, hnd, fun j hj => .inl hj, by omega, by omega, ?_, ⟨hgk, hg.2⟩, by simp only [T.size]; omega, ?_⟩
  · intro j hj hn
    simp only [T.ids, List.mem_cons, List.mem_append, not_or] at hn
    exact h6 j hj hn.1
  · intro p hp1 hp2 c
    have e := hmin p (by omega)
    have q := hle p hp1 hp2
    simp only [lst, mn_eq]
    rw [show min c (evl ka kb (xs p)) = min (evl ka kb (xs p)) c by omega, show min c (evl na nb (xs p)) = min (evl na nb (xs p)) c by omega]
    split
    · rw [lst_min, lst_min]; omega
    · rw [lst_min, lst_min]; omega
end

/-- A new node. -/
theorem new_node {xs : Nat → Int} {n : Nat} {nds : List Nd} {la lb : Int} (hg : Good xs n la lb) (lo hi : Nat) (h : lo ≤ hi) :
    Rep (nds ++ [⟨la, lb, -1, -1⟩]) (.node nds.length la lb .nil .nil) lo hi ∧ (T.node nds.length la lb .nil .nil).all (Good xs n) ∧ ∀ p c, lst xs (.node nds.length la lb .nil .nil) lo hi p c = min (lst xs .nil lo hi p c) (evl la lb (xs p)) := by
  refine ⟨⟨ndAt_new _ _, by simp, h, fun _ => ⟨rfl, rfl⟩, trivial, trivial⟩, ⟨hg, trivial, trivial⟩, fun p c => ?_⟩
  simp only [lst, mn_eq]
  split <;> rfl

theorem root_nil {t : T} : t.root = -1 ↔ t = .nil := by
  cases t with
  | nil => simp [T.root]
  | node i a b l r => simp [T.root]

/-- What a merge leaves, of the trees. -/
structure MrgT (xs : Nat → Int) (n : Nat) (ta tb : T) (nds nds' : List Nd) (lo hi : Nat) (t' : T) : Prop where
  rep : Rep nds' t' lo hi
  nodup : t'.ids.Nodup
  ids : ∀ j ∈ t'.ids, j ∈ ta.ids ∨ j ∈ tb.ids ∨ nds.length ≤ j
  len : nds.length ≤ nds'.length
  len1 : nds'.length ≤ nds.length + tb.size
  same : ∀ j, j < nds.length → j ∉ ta.ids → j ∉ tb.ids → ndAt nds' j = ndAt nds j
  good : t'.all (Good xs n)
  sz : t'.size ≤ ta.size + tb.size
  val : ∀ p, lo ≤ p → p ≤ hi → ∀ c, lst xs t' lo hi p c = min (lst xs ta lo hi p c) (lst xs tb lo hi p c)
  safe : Safe nds'

end Go.Proofs.Qxb6614303a

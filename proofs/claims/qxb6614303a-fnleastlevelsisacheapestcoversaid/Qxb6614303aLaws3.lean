/-
  Seat b6614303a. The merge, on trees.
-/
import Derived.Test.Qxb6614303aLaws2
namespace Go.Proofs.Qxb6614303a
open Go.RowKit
set_option linter.unusedVariables false

/-- What stands behind the insertion of b's root line into a. -/
structure Mid1 (xs : Nat → Int) (n i j : Nat) (ka kb a1 b1 : Int) (tl tr bl br : T) (nds1 : List Nd) (lo hi mid : Nat) : Prop where
  ri : ndAt nds1 i = ⟨ka, kb, tl.root, tr.root⟩
  rj : ndAt nds1 j = ⟨a1, b1, bl.root, br.root⟩
  li : i < nds1.length
  lj : j < nds1.length
  repL : Rep nds1 tl lo mid
  repR : Rep nds1 tr (mid + 1) hi
  repBL : Rep nds1 bl lo mid
  repBR : Rep nds1 br (mid + 1) hi
  leafA : lo = hi → tl = .nil ∧ tr = .nil
  leafB : lo = hi → bl = .nil ∧ br = .nil
  nL : (tl.ids ++ bl.ids).Nodup
  nR : (tr.ids ++ br.ids).Nodup
  ij : i ≠ j
  iL : i ∉ tl.ids ∧ i ∉ bl.ids ∧ i ∉ tr.ids ∧ i ∉ br.ids
  jL : j ∉ tl.ids ∧ j ∉ bl.ids ∧ j ∉ tr.ids ∧ j ∉ br.ids
  rl : ∀ k, (k ∈ tr.ids ∨ k ∈ br.ids) → k ∉ tl.ids ∧ k ∉ bl.ids
  gk : Good xs n ka kb
  gl : tl.all (Good xs n)
  gr : tr.all (Good xs n)
  gbl : bl.all (Good xs n)
  gbr : br.all (Good xs n)

section
variable {xs : Nat → Int} {n i j : Nat} {a2 b2 a1 b1 ka kb : Int} {l r tl tr bl br tL tR : T} {nds nds1 nds2 nds4 : List Nd} {lo hi mid : Nat}

theorem mrg_pre (hm : (lo + hi) / 2 = mid) (hI : InsT xs n (.node i a2 b2 l r) nds nds1 lo hi a1 b1 (.node i ka kb tl tr)) (hrb : Rep nds (.node j a1 b1 bl br) lo hi) (hdB : (T.node j a1 b1 bl br).ids.Nodup) (hdAB : ∀ x ∈ (T.node i a2 b2 l r).ids, ∀ y ∈ (T.node j a1 b1 bl br).ids, x ≠ y) (hgb : (T.node j a1 b1 bl br).all (Good xs n)) :
    Mid1 xs n i j ka kb a1 b1 tl tr bl br nds1 lo hi mid := by
  have blt := Rep.lt _ _ _ hrb
  have hrb1 : Rep nds1 (.node j a1 b1 bl br) lo hi := Rep.congr hI.len _ _ _ (fun k hk => hI.same k (blt k hk) (fun e => hdAB k e k hk rfl)) hrb
  obtain ⟨r1, r2, r3, r4, r5, r6⟩ := hI.rep
  obtain ⟨q1, q2, q3, q4, q5, q6⟩ := hrb1
  rw [hm] at r5 r6 q5 q6
  obtain ⟨d1, d2, d3, d4, d5⟩ := ids_nd hI.nodup
  obtain ⟨c1, c2, c3, c4, c5⟩ := ids_nd hdB
  -- a number of a's new tree is no number of b
  have far : ∀ k, k ∈ (T.node i ka kb tl tr).ids → k ∉ (T.node j a1 b1 bl br).ids := by
    intro k hk hb
    rcases hI.ids k hk with h | h
    · exact hdAB k h k hb rfl
    · have := blt k hb
      omega
  have mi : i ∈ (T.node i ka kb tl tr).ids := by simp [T.ids]
  have mtl : ∀ k ∈ tl.ids, k ∈ (T.node i ka kb tl tr).ids := fun k hk => by simp [T.ids, hk]
  have mtr : ∀ k ∈ tr.ids, k ∈ (T.node i ka kb tl tr).ids := fun k hk => by simp [T.ids, hk]
  have mj : j ∈ (T.node j a1 b1 bl br).ids := by simp [T.ids]
  have mbl : ∀ k ∈ bl.ids, k ∈ (T.node j a1 b1 bl br).ids := fun k hk => by simp [T.ids, hk]
  have mbr : ∀ k ∈ br.ids, k ∈ (T.node j a1 b1 bl br).ids := fun k hk => by simp [T.ids, hk]
  refine ⟨r1, q1, r2, q2, r5, r6, q5, q6, r4, q4, ?_, ?_, fun e => far i mi (e ▸ mj), ⟨d1, fun e => far i mi (mbl i e), d2, fun e => far i mi (mbr i e)⟩, ⟨fun e => far j (mtl j e) mj, c1, fun e => far j (mtr j e) mj, c2⟩, ?_, hI.good.1, hI.good.2.1, hI.good.2.2, hgb.2.1, hgb.2.2⟩
  · exact List.nodup_append.2 ⟨d3, c3, fun x hx y hy e => far x (mtl x hx) (mbl x (e ▸ hy))⟩
  · exact List.nodup_append.2 ⟨d4, c4, fun x hx y hy e => far x (mtr x hx) (mbr x (e ▸ hy))⟩
  · intro k hk
    rcases hk with hk | hk
    · exact ⟨fun e => d5 k e hk, fun e => far k (mtr k hk) (mbl k e)⟩
    · exact ⟨fun e => far k (mtl k e) (mbr k hk), fun e => c5 k e hk⟩

/-- What stands behind the first of the two lower merges. -/
theorem mrg_mid (h : Mid1 xs n i j ka kb a1 b1 tl tr bl br nds1 lo hi mid) (hML : MrgT xs n tl bl nds1 nds2 lo mid tL) :
    ndAt nds2 i = ⟨ka, kb, tl.root, tr.root⟩ ∧ i < nds2.length ∧ j < nds2.length ∧ Safe (nds2.set i ⟨ka, kb, tL.root, tr.root⟩) ∧ ndAt (nds2.set i ⟨ka, kb, tL.root, tr.root⟩) j = ⟨a1, b1, bl.root, br.root⟩ ∧ Rep (nds2.set i ⟨ka, kb, tL.root, tr.root⟩) tr (mid + 1) hi ∧ Rep (nds2.set i ⟨ka, kb, tL.root, tr.root⟩) br (mid + 1) hi := by
  have l1 := hML.len
  have hi2 : i < nds2.length := by have := h.li; omega
  have hj2 : j < nds2.length := by have := h.lj; omega
  have e1 : ndAt nds2 i = ⟨ka, kb, tl.root, tr.root⟩ := (hML.same i h.li h.iL.1 h.iL.2.1).trans h.ri
  have keep : ∀ k, k < nds1.length → k ≠ i → k ∉ tl.ids → k ∉ bl.ids → ndAt (nds2.set i ⟨ka, kb, tL.root, tr.root⟩) k = ndAt nds1 k := fun k hk hne h1 h2 => by
    rw [ndAt_set_ne _ (fun e => hne e.symm), hML.same k hk h1 h2]
  refine ⟨e1, hi2, hj2, ?_, ?_, ?_, ?_⟩
  · intro k hk
    rw [List.length_set] at hk ⊢
    by_cases e : i = k
    · subst e
      rw [ndAt_set _ hi2]
      have s1 := hML.safe i hi2
      rw [e1] at s1
      refine ⟨?_, s1.2⟩
      cases tL with
      | nil => exact .inl rfl
      | node q _ _ _ _ => exact .inr ⟨by simp [T.root], by have := hML.rep.2.1; simp only [T.root]; omega⟩
    · rw [ndAt_set_ne _ e]
      exact hML.safe k hk
  · rw [keep j h.lj (fun e => h.ij e.symm) h.jL.1 h.jL.2.1]
    exact h.rj
  · exact Rep.congr (by rw [List.length_set]; omega) _ _ _ (fun k hk => keep k (Rep.lt _ _ _ h.repR k hk) (fun e => h.iL.2.2.1 (e ▸ hk)) (h.rl k (.inl hk)).1 (h.rl k (.inl hk)).2) h.repR
  · exact Rep.congr (by rw [List.length_set]; omega) _ _ _ (fun k hk => keep k (Rep.lt _ _ _ h.repBR k hk) (fun e => h.iL.2.2.2 (e ▸ hk)) (h.rl k (.inr hk)).1 (h.rl k (.inr hk)).2) h.repBR

theorem mrg_asm (hm : (lo + hi) / 2 = mid) (hI : InsT xs n (.node i a2 b2 l r) nds nds1 lo hi a1 b1 (.node i ka kb tl tr)) (h : Mid1 xs n i j ka kb a1 b1 tl tr bl br nds1 lo hi mid) (hlh : lo ≤ hi) (hML : MrgT xs n tl bl nds1 nds2 lo mid tL)
    (hMR : MrgT xs n tr br (nds2.set i ⟨ka, kb, tL.root, tr.root⟩) nds4 (mid + 1) hi tR) :
    ndAt nds4 i = ⟨ka, kb, tL.root, tr.root⟩ ∧ i < nds4.length ∧ MrgT xs n (.node i a2 b2 l r) (.node j a1 b1 bl br) nds (nds4.set i ⟨ka, kb, tL.root, tR.root⟩) lo hi (.node i ka kb tL tR) := by
  obtain ⟨m1, m2, m3, m4, m5, m6, m7⟩ := mrg_mid h hML
  have l1 := hI.len
  have l1' := hI.len1
  have l2 := hML.len
  have l2' := hML.len1
  have l3 := hMR.len
  have l3' := hMR.len1
  rw [List.length_set] at l3 l3'
  have hi4 : i < nds4.length := by omega
  have e4 : ndAt nds4 i = ⟨ka, kb, tL.root, tr.root⟩ := by
    rw [hMR.same i (by rw [List.length_set]; exact m2) h.iL.2.2.1 h.iL.2.2.2, ndAt_set _ m2]
  -- the left tree's numbers
  have lL : ∀ k ∈ tL.ids, k < nds2.length ∧ k ≠ i ∧ k ∉ tr.ids ∧ k ∉ br.ids := by
    intro k hk
    have hlt := Rep.lt _ _ _ hML.rep k hk
    rcases hML.ids k hk with q | q | q
    · exact ⟨hlt, fun e => h.iL.1 (e ▸ q), fun e => (h.rl k (.inl e)).1 q, fun e => (h.rl k (.inr e)).1 q⟩
    · exact ⟨hlt, fun e => h.iL.2.1 (e ▸ q), fun e => (h.rl k (.inl e)).2 q, fun e => (h.rl k (.inr e)).2 q⟩
    · exact ⟨hlt, fun e => by have := h.li; omega, fun e => by have := Rep.lt _ _ _ h.repR k e; omega, fun e => by have := Rep.lt _ _ _ h.repBR k e; omega⟩
  have keepL : ∀ k ∈ tL.ids, ndAt (nds4.set i ⟨ka, kb, tL.root, tR.root⟩) k = ndAt nds2 k := by
    intro k hk
    obtain ⟨q1, q2, q3, q4⟩ := lL k hk
    rw [ndAt_set_ne _ (fun e => q2 e.symm), hMR.same k (by rw [List.length_set]; exact q1) q3 q4, ndAt_set_ne _ (fun e => q2 e.symm)]
  have lR : ∀ k ∈ tR.ids, k ≠ i ∧ k ∉ tL.ids ∧ (k ∈ tr.ids ∨ k ∈ br.ids ∨ nds2.length ≤ k) := by
    intro k hk
    rcases hMR.ids k hk with q | q | q
    · exact ⟨fun e => h.iL.2.2.1 (e ▸ q), fun e => (lL k e).2.2.1 q, .inl q⟩
    · exact ⟨fun e => h.iL.2.2.2 (e ▸ q), fun e => (lL k e).2.2.2 q, .inr (.inl q)⟩
    · rw [List.length_set] at q
      exact ⟨fun e => by omega, fun e => by have := (lL k e).1; omega, .inr (.inr q)⟩
  have keepR : ∀ k ∈ tR.ids, ndAt (nds4.set i ⟨ka, kb, tL.root, tR.root⟩) k = ndAt nds4 k := fun k hk => ndAt_set_ne _ (fun e => (lR k hk).1 e.symm)
  refine ⟨e4, hi4, ⟨⟨ndAt_set _ hi4, by rw [List.length_set]; exact hi4, hlh, ?_, ?_, ?_⟩, ?_, ?_, by rw [List.length_set]; omega, ?_, ?_, ⟨h.gk, hML.good, hMR.good⟩, ?_, ?_, ?_⟩⟩
  · intro e
    obtain ⟨q1, q2⟩ := h.leafA e
    obtain ⟨q3, q4⟩ := h.leafB e
    subst q1 q2 q3 q4
    have s1 := hML.sz
    have s2 := hMR.sz
    simp only [T.size] at s1 s2
    constructor
    · cases tL with
      | nil => rfl
      | node _ _ _ _ _ => simp [T.size] at s1
    · cases tR with
      | nil => rfl
      | node _ _ _ _ _ => simp [T.size] at s2
  · rw [hm]
    exact Rep.congr (by rw [List.length_set]; omega) _ _ _ keepL hML.rep
  · rw [hm]
    exact Rep.congr (by rw [List.length_set]; omega) _ _ _ keepR hMR.rep
  · exact nd_ids (fun e => (lL i e).2.1 rfl) (fun e => (lR i e).1 rfl) hML.nodup hMR.nodup (fun k hk e => (lR k e).2.1 hk)
  · intro k hk
    simp only [T.ids, List.mem_cons, List.mem_append] at hk
    have up : ∀ k, k ∈ (T.node i ka kb tl tr).ids → k ∈ (T.node i a2 b2 l r).ids ∨ nds.length ≤ k := fun k hk => (hI.ids k hk).imp id (fun e => by omega)
    rcases hk with rfl | hk | hk
    · exact .inl (by simp [T.ids])
    · rcases hML.ids k hk with q | q | q
      · exact (up k (by simp [T.ids, q])).imp id .inr
      · exact .inr (.inl (by simp [T.ids, q]))
      · exact .inr (.inr (by omega))
    · rcases (lR k hk).2.2 with q | q | q
      · exact (up k (by simp [T.ids, q])).imp id .inr
      · exact .inr (.inl (by simp [T.ids, q]))
      · exact .inr (.inr (by omega))
  · rw [List.length_set]
    simp only [T.size]
    omega
  · intro k hk ha hb
    have ha' := ha
    simp only [T.ids, List.mem_cons, List.mem_append, not_or] at ha hb
    have hk1 : k ∉ (T.node i ka kb tl tr).ids := fun e => by
      rcases hI.ids k e with q | q
      · exact ha' q
      · omega
    simp only [T.ids, List.mem_cons, List.mem_append, not_or] at hk1
    rw [ndAt_set_ne _ (fun e => ha.1 e.symm), hMR.same k (by rw [List.length_set]; omega) hk1.2.2 hb.2.2, ndAt_set_ne _ (fun e => ha.1 e.symm), hML.same k (by omega) hk1.2.1 hb.2.1]
    exact hI.same k hk ha'
  · have s1 := hML.sz
    have s2 := hMR.sz
    have s3 := hI.sz
    simp only [T.size] at s1 s2 s3 ⊢
    omega
  · intro p hp1 hp2 c
    have hv := hI.val p hp1 hp2 c
    simp only [lst, hm, mn_eq] at hv ⊢
    by_cases hp : p ≤ mid
    · simp only [if_pos hp] at hv ⊢
      have f1 := lst_min xs tl lo mid p (evl ka kb (xs p)) c
      have f2 := lst_min xs bl lo mid p (evl ka kb (xs p)) c
      have f3 := lst_min xs bl lo mid p (evl a1 b1 (xs p)) c
      rw [show min (evl ka kb (xs p)) c = min c (evl ka kb (xs p)) by omega] at f1 f2
      rw [show min (evl a1 b1 (xs p)) c = min c (evl a1 b1 (xs p)) by omega] at f3
      rw [hML.val p hp1 hp]
      omega
    · simp only [if_neg hp] at hv ⊢
      have f1 := lst_min xs tr (mid + 1) hi p (evl ka kb (xs p)) c
      have f2 := lst_min xs br (mid + 1) hi p (evl ka kb (xs p)) c
      have f3 := lst_min xs br (mid + 1) hi p (evl a1 b1 (xs p)) c
      rw [show min (evl ka kb (xs p)) c = min c (evl ka kb (xs p)) by omega] at f1 f2
      rw [show min (evl a1 b1 (xs p)) c = min c (evl a1 b1 (xs p)) by omega] at f3
      rw [hMR.val p (by omega) hp2]
      omega
  · intro k hk
    rw [List.length_set] at hk ⊢
    by_cases e : i = k
    · subst e
      rw [ndAt_set _ hi4]
      have s1 := hMR.safe i hi4
      rw [e4] at s1
      refine ⟨s1.1, ?_⟩
      cases tR with
      | nil => exact .inl rfl
      | node q _ _ _ _ => exact .inr ⟨by simp [T.root], by have := hMR.rep.2.1; simp only [T.root]; omega⟩
    · rw [ndAt_set_ne _ e]
      exact hMR.safe k hk
end

end Go.Proofs.Qxb6614303a

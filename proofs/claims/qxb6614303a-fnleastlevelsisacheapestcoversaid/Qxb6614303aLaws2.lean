/-
  Seat b6614303a. The insertion's mirror, on trees.
-/
import Derived.Test.Qxb6614303aLaws
namespace Go.Proofs.Qxb6614303a
open Go.RowKit
set_option linter.unusedVariables false

theorem rest_tree {xs : Nat → Int} {n : Nat} (hup : Up xs n) (undo : Bool) {i : Nat} {na nb a b ka kb la lb : Int} {l r : T} {nds nds2 : List Nd} {lg : List Chg} {lo hi f : Nat}
    (ihl : ∀ (nds : List Nd) (lg : List Chg) (lo hi : Nat) (a b : Int), l ≠ .nil → Rep nds l lo hi → l.ids.Nodup → l.all (Good xs n) → Good xs n a b → hi < n → hi - lo < f → ∃ t', InsT xs n l nds (ins xs undo f nds lg l.root.toNat lo hi a b).1 lo hi a b t')
    (ihr : ∀ (nds : List Nd) (lg : List Chg) (lo hi : Nat) (a b : Int), r ≠ .nil → Rep nds r lo hi → r.ids.Nodup → r.all (Good xs n) → Good xs n a b → hi < n → hi - lo < f → ∃ t', InsT xs n r nds (ins xs undo f nds lg r.root.toNat lo hi a b).1 lo hi a b t')
    (hhn : hi < n) (hf : hi - lo < f + 1) (hr : Rep nds (.node i na nb l r) lo hi) (hnd : (T.node i na nb l r).ids.Nodup) (hg : (T.node i na nb l r).all (Good xs n)) (hgk : Good xs n ka kb) (hgl : Good xs n la lb)
    (hmin : ∀ p, p < n → min (evl ka kb (xs p)) (evl la lb (xs p)) = min (evl na nb (xs p)) (evl a b (xs p))) (hmid : evl ka kb (xs ((lo + hi) / 2)) ≤ evl la lb (xs ((lo + hi) / 2)))
    (h1 : ndAt nds2 i = ⟨ka, kb, l.root, r.root⟩) (h3 : nds2.length = nds.length) (h6 : ∀ j, j < nds.length → j ≠ i → ndAt nds2 j = ndAt nds j) :
    ∃ t', InsT xs n (.node i na nb l r) nds (insRest xs undo f nds2 lg i lo hi la lb ka kb l.root r.root).1 lo hi a b t' := by
  obtain ⟨mid, hm⟩ : ∃ mid, (lo + hi) / 2 = mid := ⟨_, rfl⟩
  have hr' := hr
  obtain ⟨r1, r2, r3, r4, r5, r6⟩ := hr'
  obtain ⟨d1, d2, d3, d4, d5⟩ := ids_nd hnd
  rw [hm] at hmid r5 r6
  have rl := Rep.lt l _ _ r5
  have rr := Rep.lt r _ _ r6
  have hR2 : Rep nds2 r (mid + 1) hi := Rep.congr (by omega) r _ _ (fun j hj => h6 j (rr j hj) (fun e => d2 (e ▸ hj))) r6
  have hL2 : Rep nds2 l lo mid := Rep.congr (by omega) l _ _ (fun j hj => h6 j (rl j hj) (fun e => d1 (e ▸ hj))) r5
  unfold insRest
  rw [hm]
  by_cases hleaf : lo = hi
  · rw [if_pos hleaf]
    refine ⟨_, asmN hup hm hhn hr hnd hg hgk hmin (fun p hp1 hp2 => ?_) h1 h3 h6⟩
    have : p = mid := by omega
    rw [this]
    exact hmid
  rw [if_neg hleaf]
  by_cases hL : evl la lb (xs lo) < evl ka kb (xs lo)
  · rw [if_pos hL]
    by_cases hc : l.root = -1
    · have hl := root_nil.1 hc
      subst hl
      rw [if_pos hc]
      obtain ⟨n1, n2, n3⟩ := new_node (nds := nds2.set i ⟨ka, kb, nds2.length, r.root⟩) hgl lo mid (by omega)
      rw [List.length_set] at n1 n2 n3
      refine ⟨_, asmL hup hm (by omega) hhn hr hnd hg hgk hgl hmin hmid hL (tl := .node nds2.length la lb .nil .nil) ?_ n1 (by simp; omega) (by simp; omega) (by simp [T.ids]) ?_ ?_ n2 (by simp [T.size]) (fun p _ _ c => n3 p c)⟩
      · rw [ndAt_app _ (by rw [List.length_set]; omega), ndAt_set _ (by omega)]
        rfl
      · intro j hj
        simp [T.ids] at hj
        exact .inr (by omega)
      · intro j hj hne _
        rw [ndAt_app _ (by rw [List.length_set]; omega), ndAt_set_ne _ (fun e => hne e.symm)]
        exact h6 j hj hne
    · rw [if_neg hc]
      have hl : l ≠ .nil := fun e => hc (root_nil.2 e)
      obtain ⟨tl, q⟩ := ihl nds2 lg lo mid la lb hl hL2 d3 hg.2.1 hgl (by omega) (by omega)
      have hil : i ∉ l.ids := d1
      refine ⟨_, asmL hup hm (by omega) hhn hr hnd hg hgk hgl hmin hmid hL (tl := tl) ?_ q.rep (by have := q.len; omega) (by have := q.len1; omega) q.nodup (fun j hj => (q.ids j hj).imp id (fun e => by omega)) ?_ q.good q.sz q.val⟩
      · rw [q.same i (by omega) hil, h1, q.root]
      · intro j hj hne hnl
        rw [q.same j (by omega) hnl]
        exact h6 j hj hne
  rw [if_neg hL]
  by_cases hR : evl la lb (xs hi) < evl ka kb (xs hi)
  · rw [if_pos hR]
    by_cases hc : r.root = -1
    · have hl := root_nil.1 hc
      subst hl
      rw [if_pos hc]
      obtain ⟨n1, n2, n3⟩ := new_node (nds := nds2.set i ⟨ka, kb, l.root, nds2.length⟩) hgl (mid + 1) hi (by omega)
      rw [List.length_set] at n1 n2 n3
      refine ⟨_, asmR hup hm (by omega) hhn hr hnd hg hgk hgl hmin hmid hR (tr := .node nds2.length la lb .nil .nil) ?_ n1 (by simp; omega) (by simp; omega) (by simp [T.ids]) ?_ ?_ n2 (by simp [T.size]) (fun p _ _ c => n3 p c)⟩
      · rw [ndAt_app _ (by rw [List.length_set]; omega), ndAt_set _ (by omega)]
        rfl
      · intro j hj
        simp [T.ids] at hj
        exact .inr (by omega)
      · intro j hj hne _
        rw [ndAt_app _ (by rw [List.length_set]; omega), ndAt_set_ne _ (fun e => hne e.symm)]
        exact h6 j hj hne
    · rw [if_neg hc]
      have hl : r ≠ .nil := fun e => hc (root_nil.2 e)
      obtain ⟨tr, q⟩ := ihr nds2 lg (mid + 1) hi la lb hl hR2 d4 hg.2.2 hgl (by omega) (by omega)
      refine ⟨_, asmR hup hm (by omega) hhn hr hnd hg hgk hgl hmin hmid hR (tr := tr) ?_ q.rep (by have := q.len; omega) (by have := q.len1; omega) q.nodup (fun j hj => (q.ids j hj).imp id (fun e => by omega)) ?_ q.good q.sz q.val⟩
      · rw [q.same i (by omega) d2, h1, q.root]
      · intro j hj hne hnl
        rw [q.same j (by omega) hnl]
        exact h6 j hj hne
  rw [if_neg hR]
  refine ⟨_, asmN hup hm hhn hr hnd hg hgk hmin (fun p hp1 hp2 => ?_) h1 h3 h6⟩
  have g1 := hgk p (by omega)
  have g2 := hgl p (by omega)
  have g3 := hgk mid (by omega)
  have g4 := hgl mid (by omega)
  have g5 := hgk lo (by omega)
  have g6 := hgl lo (by omega)
  have g7 := hgk hi (by omega)
  have g8 := hgl hi (by omega)
  rw [g1, g2]
  rw [g3, g4] at hmid
  rw [g5, g6] at hL
  rw [g7, g8] at hR
  exact line_between (hup lo p hp1 (by omega)) (hup p hi hp2 hhn) (by omega) (by omega)

theorem ins_tree {xs : Nat → Int} {n : Nat} (hup : Up xs n) (undo : Bool) : ∀ (t : T) (f : Nat) (nds : List Nd) (lg : List Chg) (lo hi : Nat) (a b : Int), t ≠ .nil → Rep nds t lo hi → t.ids.Nodup → t.all (Good xs n) → Good xs n a b → hi < n → hi - lo < f →
    ∃ t', InsT xs n t nds (ins xs undo f nds lg t.root.toNat lo hi a b).1 lo hi a b t'
  | .nil, _, _, _, _, _, _, _, h, _, _, _, _, _, _ => absurd rfl h
  | .node i na nb l r, 0, _, _, _, _, _, _, _, _, _, _, _, _, hf => absurd hf (by omega)
  | .node i na nb l r, f + 1, nds, lg, lo, hi, a, b, _, hr, hnd, hg, hgl, hhn, hf => by
    have hr' := hr
    obtain ⟨r1, r2, r3, r4, r5, r6⟩ := hr'
    have hroot : (T.node i na nb l r).root.toNat = i := by simp [T.root]
    rw [hroot]
    by_cases hsw : evl a b (xs ((lo + hi) / 2)) < evl na nb (xs ((lo + hi) / 2))
    · rw [ins_sw r1 hsw]
      exact rest_tree hup undo (fun nds lg lo hi a b => ins_tree hup undo l f nds lg lo hi a b) (fun nds lg lo hi a b => ins_tree hup undo r f nds lg lo hi a b) hhn hf hr hnd hg (ka := a) (kb := b) (la := na) (lb := nb) hgl hg.1
        (fun p hp => by omega) (by omega) (ndAt_set _ r2) (by rw [List.length_set]) (fun j hj hne => ndAt_set_ne _ (fun e => hne e.symm))
    · rw [ins_nsw r1 hsw]
      exact rest_tree hup undo (fun nds lg lo hi a b => ins_tree hup undo l f nds lg lo hi a b) (fun nds lg lo hi a b => ins_tree hup undo r f nds lg lo hi a b) hhn hf hr hnd hg (ka := na) (kb := nb) (la := a) (lb := b) hg.1 hgl
        (fun p hp => by omega) (by omega) r1 rfl (fun j hj hne => rfl)

theorem Safe.link {nds : List Nd} (h : Safe nds) {i : Nat} (hi : i < nds.length) {d : Nd} (hd : ndAt nds i = d) (a b : Int) (e : Nd) (x : Nd) (hx : x.l = -1 ∧ x.r = -1) (he : (e.l = d.l ∨ e.l = nds.length) ∧ (e.r = d.r ∨ e.r = nds.length)) : Safe (nds.set i e ++ [x]) := by
  intro j hj
  simp only [List.length_append, List.length_set, List.length_cons, List.length_nil] at hj ⊢
  by_cases h1 : j = nds.length
  · subst h1
    have := ndAt_new (nds.set i e) x
    rw [List.length_set] at this
    rw [this]
    exact ⟨.inl hx.1, .inl hx.2⟩
  · rw [ndAt_app _ (by rw [List.length_set]; omega)]
    by_cases h2 : i = j
    · subst h2
      rw [ndAt_set _ hi]
      have := h i hi
      rw [hd] at this
      constructor
      · rcases he.1 with q | q <;> rw [q] <;> omega
      · rcases he.2 with q | q <;> rw [q] <;> omega
    · rw [ndAt_set_ne _ h2]
      have := h j (by omega)
      omega

theorem rest_safe {xs : Nat → Int} {undo : Bool} {f : Nat} (ih : ∀ (nds : List Nd) (lg : List Chg) (i lo hi : Nat) (a b : Int), Safe nds → i < nds.length → Safe (ins xs undo f nds lg i lo hi a b).1) {nds : List Nd} {lg : List Chg} {i lo hi : Nat} {la lb ka kb dl dr : Int} (h : Safe nds) (hi1 : i < nds.length) (hd : ndAt nds i = ⟨ka, kb, dl, dr⟩) :
    Safe (insRest xs undo f nds lg i lo hi la lb ka kb dl dr).1 := by
  have hs := h i hi1
  rw [hd] at hs
  unfold insRest
  split
  · exact h
  · split
    · split
      · exact Safe.link h hi1 hd 0 0 _ _ ⟨rfl, rfl⟩ ⟨.inr rfl, .inl rfl⟩
      · exact ih _ _ _ _ _ _ _ h (by simp only at hs; omega)
    · split
      · split
        · exact Safe.link h hi1 hd 0 0 _ _ ⟨rfl, rfl⟩ ⟨.inl rfl, .inr rfl⟩
        · exact ih _ _ _ _ _ _ _ h (by simp only at hs; omega)
      · exact h
theorem ins_safe (xs : Nat → Int) (undo : Bool) : ∀ (f : Nat) (nds : List Nd) (lg : List Chg) (i lo hi : Nat) (a b : Int), Safe nds → i < nds.length → Safe (ins xs undo f nds lg i lo hi a b).1
  | 0, nds, lg, i, lo, hi, a, b, h, hi1 => h
  | f + 1, nds, lg, i, lo, hi, a, b, h, hi1 => by
    by_cases hsw : evl a b (xs ((lo + hi) / 2)) < evl (ndAt nds i).a (ndAt nds i).b (xs ((lo + hi) / 2))
    · rw [ins_sw rfl hsw]
      exact rest_safe (ins_safe xs undo f) (h.line hi1 rfl a b) (by rw [List.length_set]; exact hi1) (ndAt_set _ hi1)
    · rw [ins_nsw rfl hsw]
      exact rest_safe (ins_safe xs undo f) h hi1 rfl
theorem rest_nolog {xs : Nat → Int} {f : Nat} (ih : ∀ (nds : List Nd) (lg : List Chg) (i lo hi : Nat) (a b : Int), (ins xs false f nds lg i lo hi a b).2 = lg) (nds : List Nd) (lg : List Chg) (i lo hi : Nat) (la lb ka kb dl dr : Int) : (insRest xs false f nds lg i lo hi la lb ka kb dl dr).2 = lg := by
  unfold insRest
  split
  · rfl
  · split
    · split
      · simp
      · exact ih _ _ _ _ _ _ _
    · split
      · split
        · simp
        · exact ih _ _ _ _ _ _ _
      · rfl
theorem ins_nolog (xs : Nat → Int) : ∀ (f : Nat) (nds : List Nd) (lg : List Chg) (i lo hi : Nat) (a b : Int), (ins xs false f nds lg i lo hi a b).2 = lg
  | 0, nds, lg, i, lo, hi, a, b => rfl
  | f + 1, nds, lg, i, lo, hi, a, b => by
    by_cases hsw : evl a b (xs ((lo + hi) / 2)) < evl (ndAt nds i).a (ndAt nds i).b (xs ((lo + hi) / 2))
    · rw [ins_sw rfl hsw, rest_nolog (ins_nolog xs f)]
      simp
    · rw [ins_nsw rfl hsw, rest_nolog (ins_nolog xs f)]

end Go.Proofs.Qxb6614303a

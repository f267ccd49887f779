/-
  Seat b6614303a. The levels that the cuts give, without Go: they cover, they change seldom, each stretch at its largest need, at the least cost over slots.
-/
import Derived.Test.Qxb6614303aOpt
namespace Go.Proofs.Qxb6614303a
open Go.RowKit
set_option linter.unusedVariables false

/-- The runs of equal needs of n slots. -/
structure RunsOK (zs : Nat → Int) (n : Nat) (lev : Nat → Int) (be : Nat → Nat) (R : Nat) : Prop where
  b0 : be 0 = 0
  bR : be R = n
  lt : ∀ r, r < R → be r < be (r + 1)
  val : ∀ r, r < R → ∀ s, be r ≤ s → s < be (r + 1) → zs s = lev r

def ofN (be : Nat → Nat) (i : Nat) : Int := be i
def sumTo (f : Nat → Int) : Nat → Int
  | 0 => 0
  | s + 1 => sumTo f s + f s
def chg (f : Nat → Int) : Nat → Nat
  | 0 => 0
  | s + 1 => chg f s + (if s = 0 ∨ f s = f (s - 1) then 0 else 1)

theorem mulL {a b c : Int} (h : b ≤ c) (ha : 0 ≤ a) : a * b ≤ a * c := Int.mul_le_mul_of_nonneg_left h ha
theorem sumTo_congr {f g : Nat → Int} : ∀ {n : Nat}, (∀ s, s < n → f s = g s) → sumTo f n = sumTo g n
  | 0, _ => rfl
  | n + 1, h => by rw [sumTo, sumTo, sumTo_congr (fun s hs => h s (by omega)), h n (by omega)]
theorem sumTo_seg {f : Nat → Int} {v : Int} (p : Nat) : ∀ (d : Nat), (∀ s, p ≤ s → s < p + d → f s = v) → sumTo f (p + d) = sumTo f p + (d : Int) * v
  | 0, _ => by simp
  | d + 1, h => by
    rw [← Nat.add_assoc, sumTo, sumTo_seg p d (fun s h1 h2 => h s h1 (by omega)), h (p + d) (by omega) (by omega), Int.natCast_add, Int.add_mul]
    simp
    omega
theorem sumTo_le {f : Nat → Int} {v : Int} (p : Nat) : ∀ (d : Nat), (∀ s, p ≤ s → s < p + d → f s ≤ v) → sumTo f (p + d) ≤ sumTo f p + (d : Int) * v
  | 0, _ => by simp
  | d + 1, h => by
    have h1 := sumTo_le p d (fun s h1 h2 => h s h1 (by omega))
    have h2 := h (p + d) (by omega) (by omega)
    rw [← Nat.add_assoc, sumTo, Int.natCast_add, Int.add_mul]
    simp
    omega
theorem chg_congr {f g : Nat → Int} : ∀ {n : Nat}, (∀ s, s < n → f s = g s) → chg f n = chg g n
  | 0, _ => rfl
  | n + 1, h => by rw [chg, chg, chg_congr (fun s hs => h s (by omega)), h n (by omega), h (n - 1) (by omega)]
theorem chg_seg {f : Nat → Int} (p : Nat) : ∀ (d : Nat), (∀ s, p < s → s < p + d + 1 → f s = f (s - 1)) → chg f (p + d + 1) = chg f (p + 1)
  | 0, _ => rfl
  | d + 1, h => by
    rw [show p + (d + 1) + 1 = (p + d + 1) + 1 by omega, chg, chg_seg p d (fun s h1 h2 => h s h1 (by omega)), if_pos (.inr (h (p + d + 1) (by omega) (by omega)))]
    rfl
theorem chg_one (f : Nat → Int) (p : Nat) : chg f (p + 1) ≤ chg f p + 1 := by
  rw [chg]
  split <;> omega

section
variable {zs lev : Nat → Int} {be : Nat → Nat} {n R : Nat}
theorem RunsOK.up (h : RunsOK zs n lev be R) : ∀ i d, i + d ≤ R → be i ≤ be (i + d)
  | i, 0, _ => Nat.le_refl _
  | i, d + 1, hd => by
    have := h.up i d (by omega)
    have := h.lt (i + d) (by omega)
    rw [show i + (d + 1) = i + d + 1 by omega]
    omega
theorem RunsOK.mono (h : RunsOK zs n lev be R) {i j : Nat} (hij : i ≤ j) (hj : j ≤ R) : be i ≤ be j := by
  have := h.up i (j - i) (by omega)
  rwa [show i + (j - i) = j by omega] at this
theorem RunsOK.smono (h : RunsOK zs n lev be R) {i j : Nat} (hij : i < j) (hj : j ≤ R) : be i < be j := by
  have := h.lt i (by omega)
  have := h.mono (i := i + 1) (j := j) (by omega) hj
  omega
theorem RunsOK.find (h : RunsOK zs n lev be R) : ∀ j, j ≤ R → ∀ s, s < be j → ∃ r, r < j ∧ be r ≤ s ∧ s < be (r + 1)
  | 0, _, s, hs => by rw [h.b0] at hs; omega
  | j + 1, hj, s, hs => by
    by_cases e : be j ≤ s
    · exact ⟨j, by omega, e, hs⟩
    · obtain ⟨r, h1, h2, h3⟩ := h.find j (by omega) s (by omega)
      exact ⟨r, by omega, h2, h3⟩
/-- The slots of the runs i .. j - 1. -/
theorem RunsOK.findIn (h : RunsOK zs n lev be R) {i j : Nat} (hij : i ≤ j) (hj : j ≤ R) {s : Nat} (h1 : be i ≤ s) (h2 : s < be j) : ∃ r, i ≤ r ∧ r < j ∧ be r ≤ s ∧ s < be (r + 1) := by
  obtain ⟨r, h3, h4, h5⟩ := h.find j hj s h2
  refine ⟨r, ?_, h3, h4, h5⟩
  by_cases e : i ≤ r
  · exact e
  · exfalso
    have := h.mono (i := r + 1) (j := i) (by omega) (by omega)
    omega
theorem RunsOK.need (h : RunsOK zs n lev be R) {i j : Nat} (hij : i ≤ j) (hj : j ≤ R) : need zs (be i) (be j - be i) = Go.Proofs.Qxb6614303a.need lev i (j - i) := by
  have hb := h.mono hij hj
  refine Int.le_antisymm (need_mono fun x h1 h2 => ?_) (need_mono fun x h1 h2 => ?_)
  · obtain ⟨r, h3, h4, h5, h6⟩ := h.findIn hij hj h1 (by omega)
    exact ⟨r, h3, by omega, by rw [h.val r (by omega) x h5 h6]; exact Int.le_refl _⟩
  · have h3 := h.lt x (by omega)
    have h4 := h.mono (i := i) (j := x) h1 (by omega)
    have h5 := h.mono (i := x + 1) (j := j) (by omega) hj
    exact ⟨be x, h4, by omega, by rw [h.val x (by omega) (be x) (Nat.le_refl _) h3]; exact Int.le_refl _⟩
theorem RunsOK.lb (h : RunsOK zs n lev be R) (hn : n ≤ 1024) (hz : ∀ s, s < n → 0 ≤ zs s ∧ zs s ≤ 2199023255552) : Lb lev (ofN be) R := by
  refine ⟨fun i hi => ?_, fun i hi => ?_, fun i j hij hj => ?_, by simp [ofN, h.b0]⟩
  · have h1 := h.lt i hi
    have h2 := h.mono (i := i + 1) (j := R) (by omega) (Nat.le_refl _)
    rw [h.bR] at h2
    rw [← h.val i hi (be i) (Nat.le_refl _) h1]
    exact hz _ (by omega)
  · have h2 := h.mono (i := i) (j := R) (by omega) (Nat.le_refl _)
    rw [h.bR] at h2
    simp only [ofN]
    omega
  · have := h.mono hij hj
    simp only [ofN]
    omega
end

/-! ### The levels -/
section
variable {zs lev : Nat → Int} {be : Nat → Nat} {n R : Nat}
theorem lvf_hi {k j s : Nat} (hj : 0 < j) (h : ofN be (cutOf lev (ofN be) k j).1 ≤ (s : Int)) : lvf lev (ofN be) (k + 1) j s = (cutOf lev (ofN be) k j).2 := by rw [lvf, if_neg (by omega), if_pos h]
theorem lvf_lo {k j s : Nat} (hj : 0 < j) (h : s < be (cutOf lev (ofN be) k j).1) : lvf lev (ofN be) (k + 1) j s = lvf lev (ofN be) k (cutOf lev (ofN be) k j).1 s := by rw [lvf, if_neg (by omega), if_neg (by simp only [ofN]; omega)]

theorem lvf_cover (h : RunsOK zs n lev be R) (hl : Lb lev (ofN be) R) : ∀ k j s, 0 < k → j ≤ R → s < be j → zs s ≤ lvf lev (ofN be) k j s
  | 0, j, s, hk, _, _ => absurd hk (by omega)
  | k + 1, j, s, _, hj, hs => by
    have hj0 : 0 < j := by
      rcases Nat.eq_zero_or_pos j with e | e
      · subst e; rw [h.b0] at hs; omega
      · exact e
    obtain ⟨a1, a2, a3, a4⟩ := cutOf_ok hl k hj hj0
    by_cases hb : be (cutOf lev (ofN be) k j).1 ≤ s
    · rw [lvf_hi hj0 (by simp only [ofN]; omega), a2]
      obtain ⟨r, h3, h4, h5, h6⟩ := h.findIn (by omega) hj hb hs
      rw [h.val r (by omega) s h5 h6]
      exact need_ge lev h3 (by omega)
    · rw [lvf_lo hj0 (by omega)]
      have hk : 0 < k := by
        rcases Nat.eq_zero_or_pos k with e | e
        · rw [a3 e, h.b0] at hb; omega
        · exact e
      exact lvf_cover h hl k _ s hk (by omega) (by omega)
theorem lvf_chg (h : RunsOK zs n lev be R) (hl : Lb lev (ofN be) R) : ∀ k j, 0 < k → j ≤ R → 0 < j → chg (lvf lev (ofN be) k j) (be j) ≤ k - 1
  | 0, j, hk, _, _ => absurd hk (by omega)
  | k + 1, j, _, hj, hj0 => by
    obtain ⟨a1, a2, a3, a4⟩ := cutOf_ok hl k hj hj0
    obtain ⟨i, hi⟩ : ∃ i, (cutOf lev (ofN be) k j).1 = i := ⟨_, rfl⟩
    rw [hi] at a1 a2 a3
    have hlt := h.smono a1 hj
    have e1 : chg (lvf lev (ofN be) (k + 1) j) (be j) = chg (lvf lev (ofN be) (k + 1) j) (be i + 1) := by
      obtain ⟨d, hd⟩ : ∃ d, be j = be i + d + 1 := ⟨be j - be i - 1, by omega⟩
      rw [hd]
      refine chg_seg (be i) d (fun s h1 h2 => ?_)
      rw [lvf_hi hj0 (by rw [hi]; simp only [ofN]; omega), lvf_hi hj0 (by rw [hi]; simp only [ofN]; omega)]
    rw [e1]
    by_cases hi0 : i = 0
    · rw [hi0, h.b0, chg, chg]
      simp
    · have hk : 0 < k := by
        rcases Nat.eq_zero_or_pos k with e | e
        · exact absurd (a3 e) hi0
        · exact e
      have ih := lvf_chg h hl k i hk (by omega) (by omega)
      have e2 : chg (lvf lev (ofN be) (k + 1) j) (be i) = chg (lvf lev (ofN be) k i) (be i) := chg_congr (fun s hs => by rw [lvf_lo hj0 (by rw [hi]; exact hs), hi])
      have := chg_one (lvf lev (ofN be) (k + 1) j) (be i)
      omega
/-- Each stretch of equal levels is at its largest need. -/
def TopOK (f zs : Nat → Int) (n : Nat) : Prop := ∀ s, s < n → (s = 0 ∨ f s ≠ f (s - 1)) → ∃ x, s ≤ x ∧ x < n ∧ zs x = f s ∧ ∀ y, s ≤ y → y ≤ x → f y = f s
theorem lvf_top (h : RunsOK zs n lev be R) (hl : Lb lev (ofN be) R) : ∀ k j, 0 < k → j ≤ R → TopOK (lvf lev (ofN be) k j) zs (be j)
  | 0, j, hk, _ => absurd hk (by omega)
  | k + 1, j, _, hj => by
    intro s hs hst
    have hj0 : 0 < j := by
      rcases Nat.eq_zero_or_pos j with e | e
      · subst e; rw [h.b0] at hs; omega
      · exact e
    obtain ⟨a1, a2, a3, a4⟩ := cutOf_ok hl k hj hj0
    obtain ⟨i, hi⟩ : ∃ i, (cutOf lev (ofN be) k j).1 = i := ⟨_, rfl⟩
    rw [hi] at a1 a2 a3
    have hlt := h.smono a1 hj
    have hhi : ∀ y, be i ≤ y → lvf lev (ofN be) (k + 1) j y = (cutOf lev (ofN be) k j).2 := fun y hy => lvf_hi hj0 (by rw [hi]; simp only [ofN]; omega)
    have hlo : ∀ y, y < be i → lvf lev (ofN be) (k + 1) j y = lvf lev (ofN be) k i y := fun y hy => by rw [lvf_lo hj0 (by rw [hi]; exact hy), hi]
    by_cases hb : be i ≤ s
    · by_cases e : s = be i
      · subst e
        obtain ⟨r, h1, h2, h3⟩ := need_att lev i (j - i) (by omega) (fun x h1 h2 => (hl.lev0 x (by omega)).1)
        have h4 := h.mono (i := i) (j := r) h1 (by omega)
        have h5 := h.smono (i := r) (j := j) (by omega) hj
        refine ⟨be r, h4, h5, ?_, fun y h6 h7 => by rw [hhi y h6, hhi _ hb]⟩
        rw [hhi _ hb, a2, h.val r (by omega) (be r) (Nat.le_refl _) (h.lt r (by omega)), h3]
      · rcases hst with e2 | e2
        · omega
        · exact absurd (by rw [hhi s hb, hhi (s - 1) (by omega)]) e2
    · have hk : 0 < k := by
        rcases Nat.eq_zero_or_pos k with e | e
        · rw [a3 e, h.b0] at hb; omega
        · exact e
      obtain ⟨x, h1, h2, h3, h4⟩ := lvf_top h hl k i hk (by omega) s (by omega) (by rw [hlo s (by omega), hlo (s - 1) (by omega)] at hst; exact hst)
      refine ⟨x, h1, by omega, by rw [hlo s (by omega)]; exact h3, fun y h5 h6 => ?_⟩
      rw [hlo s (by omega), hlo y (by omega)]
      exact h4 y h5 h6
theorem lvf_sum (h : RunsOK zs n lev be R) (hl : Lb lev (ofN be) R) : ∀ k j, j ≤ R → sumTo (lvf lev (ofN be) (k + 1) j) (be j) = rowOf lev (ofN be) k j
  | k, j, hj => by
    rcases Nat.eq_zero_or_pos j with e | hj0
    · subst e
      rw [h.b0, (row_bd hl k).p0]
      rfl
    · obtain ⟨a1, a2, a3, a4⟩ := cutOf_ok hl k hj hj0
      obtain ⟨i, hi⟩ : ∃ i, (cutOf lev (ofN be) k j).1 = i := ⟨_, rfl⟩
      rw [hi] at a1 a2 a3 a4
      have hlt := h.smono a1 hj
      have hhi : ∀ y, be i ≤ y → lvf lev (ofN be) (k + 1) j y = (cutOf lev (ofN be) k j).2 := fun y hy => lvf_hi hj0 (by rw [hi]; simp only [ofN]; omega)
      have hlo : ∀ y, y < be i → lvf lev (ofN be) (k + 1) j y = lvf lev (ofN be) k i y := fun y hy => by rw [lvf_lo hj0 (by rw [hi]; exact hy), hi]
      have e1 := sumTo_seg (f := lvf lev (ofN be) (k + 1) j) (v := (cutOf lev (ofN be) k j).2) (be i) (be j - be i) (fun s h1 h2 => hhi s h1)
      rw [show be i + (be j - be i) = be j by omega, sumTo_congr (fun s hs => hlo s hs), show ((be j - be i : Nat) : Int) = ofN be j - ofN be i by simp only [ofN]; omega, a2] at e1
      rw [e1]
      cases k with
      | zero =>
        rw [a3 rfl, h.b0, sumTo, rowOf, hl.b0, Int.sub_zero, Int.zero_add, Nat.sub_zero]
      | succ k =>
        rw [lvf_sum h hl k i (by omega), rowOf]
        exact (a4 (by omega)).cost (row_bd hl _) hj
end

/-! ### Slots or runs: the same least cost -/
def sl (i : Nat) : Int := i
section
variable {zs lev : Nat → Int} {be : Nat → Nat} {n R : Nat}
theorem slots_lb (hn : n ≤ 1024) (hz : ∀ s, s < n → 0 ≤ zs s ∧ zs s ≤ 2199023255552) : Lb zs sl n :=
  ⟨hz, fun i hi => by simp only [sl]; omega, fun i j h1 h2 => by simp only [sl]; omega, rfl⟩
/-- One candidate for a row of one segment more. -/
theorem row_cand {k p q : Nat} (hpq : q < p) {A : Int} (hA : need zs q (p - q) ≤ A) : rowOf zs sl (k + 1) p ≤ rowOf zs sl k q + (sl p - sl q) * A := by
  rw [rowOf, nxt, if_neg (by omega)]
  refine Int.le_trans (Mn_le q (by omega) (by omega)) ?_
  unfold cst
  have := mulL hA (a := sl p - sl q) (by simp only [sl]; omega)
  omega
theorem row_att (hl : Lb zs sl n) {k p : Nat} (hp : p ≤ n) (hp0 : 0 < p) : ∃ q, q < p ∧ rowOf zs sl (k + 1) p = rowOf zs sl k q + (sl p - sl q) * need zs q (p - q) := by
  rw [rowOf, nxt, if_neg (by omega)]
  obtain ⟨q, h1, h2, h3⟩ := Mn_att (f := cst zs sl (rowOf zs sl k) p) (s := 0) (k := p) hp0 (fun i h1 h2 => by have := (cst_bd (row_bd hl k) hp (i := i) (by omega)).2; show _ ≤ (9223372036854775807 : Int); omega)
  exact ⟨q, by omega, h3⟩
theorem row_less (hl : Lb zs sl n) : ∀ k p, p ≤ n → rowOf zs sl (k + 1) p ≤ rowOf zs sl k p
  | k, p, hp => by
    rcases Nat.eq_zero_or_pos p with e | hp0
    · subst e
      rw [(row_bd hl (k + 1)).p0, (row_bd hl k).p0]
      exact Int.le_refl _
    · cases k with
      | zero =>
        have := row_cand (zs := zs) (k := 0) (p := p) (q := 0) hp0 (Int.le_refl _)
        rw [(row_bd hl 0).p0] at this
        refine Int.le_trans this ?_
        simp only [rowOf, sl, Nat.sub_zero]
        simp
      | succ k =>
        obtain ⟨q, h1, h2⟩ := row_att hl (k := k) hp hp0
        have h3 := row_cand (zs := zs) (k := k + 1) (p := p) (q := q) h1 (Int.le_refl _)
        have h4 := row_less hl k q (by omega)
        omega

theorem two_mul (x y z A : Int) (h : x + y = z) : x * A + y * A = z * A := by rw [← h, Int.add_mul]

/-- A cut inside a run: what it would cost at the run's two ends. -/
theorem row_ends (h : RunsOK zs n lev be R) (hl : Lb zs sl n) (hz : ∀ s, s < n → 0 ≤ zs s) : ∀ k r p, r < R → be r < p → p < be (r + 1) → ∃ A, lev r ≤ A ∧ rowOf zs sl k (be r) + (sl p - sl (be r)) * A ≤ rowOf zs sl k p ∧ rowOf zs sl k (be (r + 1)) ≤ rowOf zs sl k p + (sl (be (r + 1)) - sl p) * A
  | k, r, p, hr, h1, h2 => by
    have hbn : be (r + 1) ≤ n := by have := h.mono (i := r + 1) (j := R) (by omega) (Nat.le_refl _); rw [h.bR] at this; exact this
    have hv := h.val r hr
    have hlev0 : 0 ≤ lev r := by rw [← hv (be r) (Nat.le_refl _) (by omega)]; exact hz _ (by omega)
    have hnd : ∀ q, be r ≤ q → q < be (r + 1) → ∀ e, e ≤ be (r + 1) → need zs q (e - q) ≤ lev r := fun q h3 h4 e he => (need_iff _ _ _ _).2 ⟨hlev0, fun x h5 h6 => by rw [hv x (by omega) (by omega)]; exact Int.le_refl _⟩
    -- a last segment from q on, q ahead of the run
    have hout : ∀ q, q < be r → ∃ A, A = need zs q (p - q) ∧ lev r ≤ A ∧ need zs q (be r - q) ≤ A ∧ need zs q (be (r + 1) - q) ≤ A := by
      intro q hq
      have hA : lev r ≤ need zs q (p - q) := by
        have := need_ge zs (i := q) (k := p - q) (x := be r) (by omega) (by omega)
        rwa [hv (be r) (Nat.le_refl _) (by omega)] at this
      refine ⟨_, rfl, hA, need_mono (fun x h5 h6 => ⟨x, h5, by omega, Int.le_refl _⟩), (need_iff _ _ _ _).2 ⟨need_pos _ _ _, fun x h5 h6 => ?_⟩⟩
      by_cases e : x < be r
      · exact need_ge zs h5 (by omega)
      · rw [hv x (by omega) (by omega)]; exact hA
    cases k with
    | zero =>
      by_cases h0 : be r = 0
      · have e0 : rowOf zs sl 0 (be r) = 0 := by rw [h0]; exact (row_bd hl 0).p0
        have hp1 : need zs 0 p ≤ lev r := by have := hnd 0 (by omega) (by omega) p (by omega); rwa [Nat.sub_zero] at this
        have hp2 : need zs 0 (be (r + 1)) ≤ lev r := by have := hnd 0 (by omega) (by omega) (be (r + 1)) (by omega); rwa [Nat.sub_zero] at this
        have hp3 : lev r ≤ need zs 0 p := by
          have := need_ge zs (i := 0) (k := p) (x := be r) (by omega) (by omega)
          rwa [hv (be r) (Nat.le_refl _) (by omega)] at this
        have hp4 : need zs 0 p = lev r := by omega
        refine ⟨lev r, Int.le_refl _, ?_, ?_⟩
        · rw [e0]; simp only [rowOf, hp4, sl, h0]; simp
        · simp only [rowOf, hp4]
          have := mulL hp2 (a := sl (be (r + 1))) (by simp only [sl]; omega)
          have := two_mul (sl p) (sl (be (r + 1)) - sl p) (sl (be (r + 1))) (lev r) (by omega)
          omega
      · obtain ⟨A, e, hA, q1, q2⟩ := hout 0 (by omega)
        rw [Nat.sub_zero] at e q1 q2
        refine ⟨A, hA, ?_, ?_⟩
        · simp only [rowOf, ← e]
          have := mulL q1 (a := sl (be r)) (by simp only [sl]; omega)
          have := two_mul (sl (be r)) (sl p - sl (be r)) (sl p) A (by omega)
          omega
        · simp only [rowOf, ← e]
          have := mulL q2 (a := sl (be (r + 1))) (by simp only [sl]; omega)
          have := two_mul (sl p) (sl (be (r + 1)) - sl p) (sl (be (r + 1))) A (by omega)
          omega
    | succ k =>
      obtain ⟨q, h3, h4⟩ := row_att hl (k := k) (p := p) (by omega) (by omega)
      by_cases hq : q < be r
      · obtain ⟨A, e, hA, q1, q2⟩ := hout q hq
        rw [← e] at h4
        refine ⟨A, hA, ?_, ?_⟩
        · have := row_cand (zs := zs) (k := k) (p := be r) (q := q) hq q1
          have := two_mul (sl (be r) - sl q) (sl p - sl (be r)) (sl p - sl q) A (by omega)
          omega
        · have := row_cand (zs := zs) (k := k) (p := be (r + 1)) (q := q) (by omega) q2
          have := two_mul (sl p - sl q) (sl (be (r + 1)) - sl p) (sl (be (r + 1)) - sl q) A (by omega)
          omega
      · have hA : need zs q (p - q) = lev r := by
          refine Int.le_antisymm (hnd q (by omega) (by omega) p (by omega)) ?_
          have := need_ge zs (i := q) (k := p - q) (x := q) (by omega) (by omega)
          rwa [hv q (by omega) (by omega)] at this
        rw [hA] at h4
        refine ⟨lev r, Int.le_refl _, ?_, ?_⟩
        · have h5 := row_less hl k (be r) (by omega)
          have h6 : rowOf zs sl k (be r) + (sl q - sl (be r)) * lev r ≤ rowOf zs sl k q := by
            by_cases e : q = be r
            · subst e; simp
            · obtain ⟨A', g1, g2, -⟩ := row_ends h hl hz k r q hr (by omega) (by omega)
              have := mulL g1 (a := sl q - sl (be r)) (by simp only [sl]; omega)
              omega
          have := two_mul (sl q - sl (be r)) (sl p - sl q) (sl p - sl (be r)) (lev r) (by omega)
          omega
        · have := row_cand (zs := zs) (k := k) (p := be (r + 1)) (q := q) (by omega) (hnd q (by omega) (by omega) (be (r + 1)) (Nat.le_refl _))
          have := two_mul (sl p - sl q) (sl (be (r + 1)) - sl p) (sl (be (r + 1)) - sl q) (lev r) (by omega)
          omega

theorem row_runs (h : RunsOK zs n lev be R) (hl : Lb zs sl n) (hl' : Lb lev (ofN be) R) (hz : ∀ s, s < n → 0 ≤ zs s) : ∀ k j, j ≤ R → rowOf zs sl k (be j) = rowOf lev (ofN be) k j
  | 0, j, hj => by
    have := h.need (i := 0) (j := j) (by omega) hj
    rw [h.b0, Nat.sub_zero, Nat.sub_zero] at this
    rw [rowOf, rowOf, this]
    rfl
  | k + 1, j, hj => by
    have hbn : ∀ i, i ≤ R → be i ≤ n := fun i hi => by have := h.mono (i := i) (j := R) hi (Nat.le_refl _); rw [h.bR] at this; exact this
    rcases Nat.eq_zero_or_pos j with e | hj0
    · subst e
      rw [h.b0, (row_bd hl _).p0, (row_bd hl' _).p0]
    · have hcs : ∀ i, i < j → cst lev (ofN be) (rowOf lev (ofN be) k) j i = rowOf zs sl k (be i) + (sl (be j) - sl (be i)) * need zs (be i) (be j - be i) := by
        intro i hi
        rw [cst, ← row_runs h hl hl' hz k i (by omega), h.need (by omega) hj]
        rfl
      have hle : ∀ i, i < j → rowOf lev (ofN be) (k + 1) j ≤ cst lev (ofN be) (rowOf lev (ofN be) k) j i := by
        intro i hi
        rw [rowOf, nxt, if_neg (by omega)]
        exact Mn_le i (by omega) (by omega)
      refine Int.le_antisymm ?_ ?_
      · rw [show rowOf lev (ofN be) (k + 1) j = Mn (cst lev (ofN be) (rowOf lev (ofN be) k) j) 0 j by rw [rowOf, nxt, if_neg (by omega)]]
        obtain ⟨i, h1, h2, h3⟩ := Mn_att (f := cst lev (ofN be) (rowOf lev (ofN be) k) j) (s := 0) (k := j) hj0 (fun i h1 h2 => by have := (cst_bd (row_bd hl' k) hj (i := i) (by omega)).2; show _ ≤ (9223372036854775807 : Int); omega)
        rw [h3, hcs i (by omega)]
        exact row_cand (h.smono (by omega) hj) (Int.le_refl _)
      · have hbj : 0 < be j := by have := h.smono (i := 0) (j := j) hj0 hj; omega
        obtain ⟨p, h1, h2⟩ := row_att hl (k := k) (hbn j hj) hbj
        rw [h2]
        obtain ⟨r, h3, h4, h5⟩ := h.find j hj p h1
        have hv := h.val r (by omega)
        by_cases e : p = be r
        · subst e
          rw [← hcs r h3]
          exact hle r h3
        · obtain ⟨A, g1, g2, g3⟩ := row_ends h hl hz k r p (by omega) (by omega) h5
          obtain ⟨B, hB⟩ : ∃ B, need zs p (be j - p) = B := ⟨_, rfl⟩
          rw [hB]
          have hB1 : lev r ≤ B := by
            rw [← hv p (by omega) h5, ← hB]
            exact need_ge zs (Nat.le_refl _) (by omega)
          have hB0 : 0 ≤ B := by rw [← hB]; exact need_pos _ _ _
          by_cases hAB : B ≤ A
          · have q1 := hle r h3
            rw [hcs r h3] at q1
            have q2 : need zs (be r) (be j - be r) ≤ B := (need_iff _ _ _ _).2 ⟨hB0, fun x h6 h7 => by
              by_cases ex : x < p
              · rw [hv x h6 (by omega)]; exact hB1
              · rw [← hB]; exact need_ge zs (by omega) (by omega)⟩
            have q3 := mulL q2 (a := sl (be j) - sl (be r)) (by simp only [sl]; omega)
            have q4 := two_mul (sl p - sl (be r)) (sl (be j) - sl p) (sl (be j) - sl (be r)) B (by omega)
            have q5 := mulL hAB (a := sl p - sl (be r)) (by simp only [sl]; omega)
            omega
          · have hrj : r + 1 < j := by
              by_cases e2 : r + 1 < j
              · exact e2
              · exfalso
                obtain rfl : j = r + 1 := by omega
                have : B ≤ lev r := by
                  rw [← hB]
                  refine (need_iff _ _ _ _).2 ⟨?_, fun x h6 h7 => by rw [hv x (by omega) (by omega)]; exact Int.le_refl _⟩
                  rw [← hv p (by omega) h5]
                  exact hz p (by have := hbn _ hj; omega)
                omega
            have q1 := hle (r + 1) hrj
            rw [hcs (r + 1) hrj] at q1
            have q0 := h.smono hrj hj
            have q2 : need zs (be (r + 1)) (be j - be (r + 1)) ≤ B := by
              rw [← hB]
              exact need_mono (fun x h6 h7 => ⟨x, by omega, by omega, Int.le_refl _⟩)
            have q3 := mulL q2 (a := sl (be j) - sl (be (r + 1))) (by simp only [sl]; omega)
            have q4 := two_mul (sl (be (r + 1)) - sl p) (sl (be j) - sl (be (r + 1))) (sl (be j) - sl p) B (by omega)
            have q5 := mulL (show A ≤ B by omega) (a := sl (be (r + 1)) - sl p) (by simp only [sl]; omega)
            omega

/-- No cover is cheaper than the needs. -/
theorem row_ge_sum (hl : Lb zs sl n) : ∀ k p, p ≤ n → sumTo zs p ≤ rowOf zs sl k p
  | k, p, hp => by
    rcases Nat.eq_zero_or_pos p with e | hp0
    · subst e
      rw [(row_bd hl k).p0]
      exact Int.le_refl _
    · cases k with
      | zero =>
        have := sumTo_le (f := zs) (v := need zs 0 p) 0 p (fun s h1 h2 => need_ge zs h1 h2)
        rw [Nat.zero_add] at this
        simpa [rowOf, sl, sumTo] using this
      | succ k =>
        obtain ⟨q, h1, h2⟩ := row_att hl (k := k) hp hp0
        have h3 := row_ge_sum hl k q (by omega)
        have h4 := sumTo_le (f := zs) (v := need zs q (p - q)) q (p - q) (fun s h1 h2 => need_ge zs h1 h2)
        rw [show q + (p - q) = p by omega, show ((p - q : Nat) : Int) = sl p - sl q by simp only [sl]; omega] at h4
        omega
/-- As many segments as runs cost the needs. -/
theorem row_all (h : RunsOK zs n lev be R) (hl' : Lb lev (ofN be) R) : ∀ k j, j ≤ R → j ≤ k + 1 → rowOf lev (ofN be) k j ≤ sumTo zs (be j)
  | k, 0, _, _ => by
    rw [(row_bd hl' k).p0, h.b0]
    exact Int.le_refl _
  | k, j + 1, hj, hk => by
    have hlt := h.lt j (by omega)
    have e1 := sumTo_seg (f := zs) (v := lev j) (be j) (be (j + 1) - be j) (fun s h1 h2 => h.val j (by omega) s h1 (by omega))
    rw [show be j + (be (j + 1) - be j) = be (j + 1) by omega, show ((be (j + 1) - be j : Nat) : Int) = ofN be (j + 1) - ofN be j by simp only [ofN]; omega] at e1
    have hn : need lev j (j + 1 - j) = lev j := by
      have := (hl'.lev0 j (by omega)).1
      rw [show j + 1 - j = 1 by omega, need, need, Nat.add_zero]
      omega
    cases k with
    | zero =>
      obtain rfl : j = 0 := by omega
      rw [e1, h.b0, hl'.b0]
      simp only [rowOf, sumTo]
      rw [show (0 + 1 : Nat) = 0 + 1 - 0 by omega, hn]
      simp
    | succ k =>
      have ih := row_all h hl' k j (by omega) (by omega)
      rw [rowOf, nxt, if_neg (by omega)]
      have q := Mn_le (f := cst lev (ofN be) (rowOf lev (ofN be) k) (j + 1)) (s := 0) (k := j + 1) j (by omega) (by omega)
      refine Int.le_trans q ?_
      rw [cst, hn]
      omega
theorem runs_chg (h : RunsOK zs n lev be R) : ∀ j, j ≤ R → 0 < j → chg zs (be j) ≤ j - 1
  | 0, _, h0 => absurd h0 (by omega)
  | j + 1, hj, _ => by
    have hlt := h.lt j (by omega)
    have e1 : chg zs (be (j + 1)) = chg zs (be j + 1) := by
      obtain ⟨d, hd⟩ : ∃ d, be (j + 1) = be j + d + 1 := ⟨be (j + 1) - be j - 1, by omega⟩
      rw [hd]
      refine chg_seg (be j) d (fun s h1 h2 => ?_)
      rw [h.val j (by omega) s (by omega) (by omega), h.val j (by omega) (s - 1) (by omega) (by omega)]
    rw [e1]
    rcases Nat.eq_zero_or_pos j with e | hj0
    · subst e
      rw [h.b0, chg, chg]
      simp
    · have := runs_chg h j (by omega) hj0
      have := chg_one zs (be j)
      omega
end
end Go.Proofs.Qxb6614303a

/-
  Seat b6614303a. nextRow's stack, without Go: its blocks of cuts, the envelope of the ends as a chain of insertions.
-/
import Derived.Test.Qxb6614303aLaws2
import Derived.Test.Qxb6614303aUndo
namespace Go.Proofs.Qxb6614303a
open Go.RowKit
set_option linter.unusedVariables false

abbrev Mx : Int := 9223372036854775807

/-- The least of k values from s on. -/
def Mn (f : Nat → Int) (s : Nat) : Nat → Int
  | 0 => Mx
  | k + 1 => min (Mn f s k) (f (s + k))
theorem Mn_add (f : Nat → Int) (s a : Nat) : ∀ b, Mn f s (a + b) = min (Mn f s a) (Mn f (s + a) b)
  | 0 => by
    simp only [Nat.add_zero, Mn]
    have : ∀ k, Mn f s k ≤ Mx := fun k => by
      induction k with
      | zero => simp [Mn]
      | succ k ih => simp only [Mn]; omega
    have := this a
    omega
  | b + 1 => by
    rw [← Nat.add_assoc, Mn, Mn, Mn_add f s a b, Nat.add_assoc]
    omega
theorem Mn_le_Mx (f : Nat → Int) (s k : Nat) : Mn f s k ≤ Mx := by
  induction k with
  | zero => simp [Mn]
  | succ k ih => simp only [Mn]; omega
theorem Mn_congr {f g : Nat → Int} {s k : Nat} (h : ∀ i, s ≤ i → i < s + k → f i = g i) : Mn f s k = Mn g s k := by
  induction k with
  | zero => rfl
  | succ k ih =>
    rw [Mn, Mn, ih (fun i h1 h2 => h i h1 (by omega)), h (s + k) (by omega) (by omega)]
theorem Mn_le {f : Nat → Int} {s k : Nat} : ∀ i, s ≤ i → i < s + k → Mn f s k ≤ f i := by
  induction k with
  | zero => intro i h1 h2; omega
  | succ k ih =>
    intro i h1 h2
    rw [Mn]
    by_cases h : i = s + k
    · subst h; omega
    · have := ih i h1 (by omega); omega
theorem Mn_ge {f : Nat → Int} {s k : Nat} {m : Int} (hm : m ≤ Mx) (h : ∀ i, s ≤ i → i < s + k → m ≤ f i) : m ≤ Mn f s k := by
  induction k with
  | zero => exact hm
  | succ k ih =>
    rw [Mn]
    have := ih (fun i h1 h2 => h i h1 (by omega))
    have := h (s + k) (by omega) (by omega)
    omega
/-- A constant comes out of the least, where there is one value at least and none is too large. -/
theorem Mn_shift {f g : Nat → Int} {s k : Nat} (d : Int) (hk : 0 < k) (h : ∀ i, s ≤ i → i < s + k → g i = f i + d) (hf : ∀ i, s ≤ i → i < s + k → f i ≤ Mx ∧ f i + d ≤ Mx) : Mn g s k = Mn f s k + d := by
  induction k with
  | zero => omega
  | succ k ih =>
    rw [Mn, Mn, h (s + k) (by omega) (by omega)]
    have hk2 := hf (s + k) (by omega) (by omega)
    by_cases h0 : k = 0
    · subst h0
      simp only [Mn] at *
      omega
    · rw [ih (by omega) (fun i h1 h2 => h i h1 (by omega)) (fun i h1 h2 => hf i h1 (by omega))]
      omega

/-- The largest need of k runs from i on. -/
def need (lev : Nat → Int) (i : Nat) : Nat → Int
  | 0 => 0
  | k + 1 => max (need lev i k) (lev (i + k))

/-- A block of cuts on the stack: its first cut, its level, its least value, its tree. -/
structure G where
  s : Nat
  lv : Int
  best : Int
  t : T

/-- The envelope of the ends, of the blocks on the stack (the last laid first). -/
def chain (xs : Nat → Int) (X : Nat) : List G → List Nd × List Chg
  | [] => ([⟨Mx, 0, -1, -1⟩], [])
  | g :: L => ins xs true X (chain xs X L).1 (chain xs X L).2 0 0 (X - 1) g.best g.lv

def endsMin (xs : Nat → Int) (p : Nat) : List G → Int
  | [] => Mx
  | g :: L => min (endsMin xs p L) (evl g.best g.lv (xs p))

structure ChainOK (xs : Nat → Int) (X : Nat) (S : List G) (t : T) : Prop where
  rep : Rep (chain xs X S).1 t 0 (X - 1)
  root : t.root = 0
  nodup : t.ids.Nodup
  good : t.all (Good xs X)
  val : ∀ p, p < X → lst xs t 0 (X - 1) p Mx = endsMin xs p S
  safe : Safe (chain xs X S).1
  pos : 0 < (chain xs X S).1.length
  len : (chain xs X S).1.length ≤ 1 + S.length
  log : (chain xs X S).2.length ≤ 2 * X * S.length

theorem evl_Mx (x : Int) : evl Mx 0 x = Mx := by
  unfold evl
  simp [wrap64, Mx]

theorem chain_ok {xs : Nat → Int} {X : Nat} (hX : 0 < X) (hup : Up xs X) : ∀ (S : List G), (∀ g ∈ S, Good xs X g.best g.lv) → ∃ t, ChainOK xs X S t
  | [], _ => by
    refine ⟨.node 0 Mx 0 .nil .nil, ⟨rfl, by simp [chain], by omega, fun _ => ⟨rfl, rfl⟩, trivial, trivial⟩, rfl, by simp [T.ids], ⟨fun p hp => by rw [evl_Mx]; omega, trivial, trivial⟩, fun p hp => ?_, ?_, by simp [chain], by simp [chain], by simp [chain]⟩
    · simp only [lst, mn_eq, evl_Mx, endsMin]
      split <;> omega
    · intro i hi
      simp only [chain, List.length_singleton] at hi
      obtain rfl : i = 0 := by omega
      simp [chain, ndAt]
  | g :: L, hg => by
    obtain ⟨t, h⟩ := chain_ok hX hup L (fun x hx => hg x (List.mem_cons_of_mem _ hx))
    have hg0 := hg g (List.mem_cons_self ..)
    have hne : t ≠ .nil := fun e => by have := h.root; rw [e] at this; simp [T.root] at this
    obtain ⟨t', ht⟩ := ins_tree hup true t X (chain xs X L).1 (chain xs X L).2 0 (X - 1) g.best g.lv hne h.rep h.nodup h.good hg0 (by omega) (by omega)
    rw [h.root] at ht
    obtain ⟨es, e1, e2, e3⟩ := ins_back xs X (chain xs X L).1 (chain xs X L).2 0 0 (X - 1) g.best g.lv h.safe h.pos
    refine ⟨t', ht.rep, ht.root.trans h.root, ht.nodup, ht.good, fun p hp => ?_, ins_safe xs true X _ _ 0 0 (X - 1) _ _ h.safe h.pos, Nat.lt_of_lt_of_le h.pos ht.len, ?_, ?_⟩
    · rw [ht.val p (Nat.zero_le _) (by omega), h.val p hp, endsMin]
    · have := ht.len1
      have := h.len
      simp only [List.length_cons]
      show (ins xs true X (chain xs X L).1 (chain xs X L).2 0 0 (X - 1) g.best g.lv).1.length ≤ _
      simp only [Int.toNat_zero] at *
      omega
    · have := h.log
      show (ins xs true X (chain xs X L).1 (chain xs X L).2 0 0 (X - 1) g.best g.lv).2.length ≤ _
      rw [e1, List.length_append, List.length_cons, Nat.mul_add]
      omega

/-- What rollback does to the envelope of the ends: the last block's line is out. -/
theorem chain_roll {xs : Nat → Int} {X : Nat} {g : G} {L : List G} {t : T} (h : ChainOK xs X L t) :
    (undoTo (chain xs X L).2.length (chain xs X (g :: L)).2.length (chain xs X (g :: L)).1 (chain xs X (g :: L)).2).take (chain xs X L).1.length = (chain xs X L).1 ∧
    (chain xs X (g :: L)).2.take (chain xs X L).2.length = (chain xs X L).2 ∧ (chain xs X L).2.length ≤ (chain xs X (g :: L)).2.length ∧ (chain xs X L).1.length ≤ (chain xs X (g :: L)).1.length ∧
    ∀ j, (chain xs X L).2.length ≤ j → j < (chain xs X (g :: L)).2.length → 0 ≤ ((chain xs X (g :: L)).2.getD j ⟨0, 0, 0, false, false⟩).node ∧ ((chain xs X (g :: L)).2.getD j ⟨0, 0, 0, false, false⟩).node < (chain xs X (g :: L)).1.length := by
  obtain ⟨es, e1, e2, e3, e4, e5⟩ := ins_back xs X (chain xs X L).1 (chain xs X L).2 0 0 (X - 1) g.best g.lv h.safe h.pos
  have f1 : (chain xs X (g :: L)).2 = (chain xs X L).2 ++ es := e1
  have f2 : (chain xs X (g :: L)).1 = (ins xs true X (chain xs X L).1 (chain xs X L).2 0 0 (X - 1) g.best g.lv).1 := rfl
  rw [← f2] at e3 e4
  rw [undoR_len] at e3
  rw [f1]
  refine ⟨?_, by simp, by simp, e3, ?_⟩
  · rw [List.length_append, undoTo_app]
    exact e4
  · intro j h1 h2
    rw [List.length_append] at h2
    rw [List.getD, List.getElem?_append_right h1]
    have : j - (chain xs X L).2.length < es.length := by omega
    rw [List.getElem?_eq_getElem this]
    have := e5 _ (List.getElem_mem this)
    simp only [Option.getD_some]
    omega

/-! ### The stack and the blocks' trees -/
/-- A block in memory: level, tree, mark. -/
structure Bk where
  lv : Int
  t : Int
  ml : Int
  mn : Int
def Bk.cs (d : Bk) : List Value := [.int .i64 d.lv, .int .i64 d.t, .int .i64 d.ml, .int .i64 d.mn]
def bk (xs : Nat → Int) (X : Nat) (g : G) (L : List G) : Bk := ⟨g.lv, g.t.root, (chain xs X L).2.length, (chain xs X L).1.length⟩
def stk (xs : Nat → Int) (X : Nat) : List G → List Bk
  | [] => []
  | g :: L => stk xs X L ++ [bk xs X g L]
theorem stk_len (xs : Nat → Int) (X : Nat) : ∀ S, (stk xs X S).length = S.length
  | [] => rfl
  | g :: L => by simp [stk, stk_len xs X L]

section
variable (xs : Nat → Int) (D : Nat) (lev bef prev : Nat → Int)
/-- The tree t holds the lines of the cuts s .. e - 1. -/
structure TreeOK (nds : List Nd) (t : T) (s e : Nat) : Prop where
  rep : Rep nds t 0 (D - 1)
  nodup : t.ids.Nodup
  good : t.all (Good xs D)
  size : t.size ≤ e - s
  val : ∀ p, p < D → lst xs t 0 (D - 1) p Mx = Mn (fun i => prev i - bef i * xs p) s (e - s)

/-- The blocks on the stack hold the cuts 0 .. e - 1, as they stand with j runs seen. -/
def Stk (nds : List Nd) (j : Nat) : List G → Nat → Prop
  | [], e => e = 0
  | g :: L, e => g.s < e ∧ TreeOK xs D bef prev nds g.t g.s e ∧ (∀ i, g.s ≤ i → i < e → need lev i (j - i) = g.lv) ∧ g.best = Mn (fun i => prev i - bef i * g.lv) g.s (e - g.s) ∧ (∀ x ∈ g.t.ids, ∀ h ∈ L, x ∉ h.t.ids) ∧ (∀ h ∈ L, g.lv < h.lv) ∧ Stk nds j L g.s
end

section
variable {xs : Nat → Int} {D : Nat} {lev bef prev : Nat → Int}
theorem TreeOK.congr {nds nds' : List Nd} {t : T} {s e : Nat} (h : TreeOK xs D bef prev nds t s e) (hl : nds.length ≤ nds'.length) (hs : ∀ x ∈ t.ids, ndAt nds' x = ndAt nds x) : TreeOK xs D bef prev nds' t s e :=
  ⟨Rep.congr hl t _ _ hs h.rep, h.nodup, h.good, h.size, h.val⟩
theorem Stk.congr {nds nds' : List Nd} {j : Nat} (hl : nds.length ≤ nds'.length) : ∀ {S : List G} {e : Nat}, (∀ g ∈ S, ∀ x ∈ g.t.ids, ndAt nds' x = ndAt nds x) → Stk xs D lev bef prev nds j S e → Stk xs D lev bef prev nds' j S e
  | [], _, _, h => h
  | g :: L, e, hs, h => ⟨h.1, h.2.1.congr hl (hs g (List.mem_cons_self ..)), h.2.2.1, h.2.2.2.1, h.2.2.2.2.1, h.2.2.2.2.2.1, Stk.congr hl (fun x hx => hs x (List.mem_cons_of_mem _ hx)) h.2.2.2.2.2.2⟩
theorem Stk.ids_lt {nds : List Nd} {j : Nat} : ∀ {S : List G} {e : Nat}, Stk xs D lev bef prev nds j S e → ∀ g ∈ S, ∀ x ∈ g.t.ids, x < nds.length
  | [], _, _, g, hg, _, _ => by cases hg
  | g :: L, e, h, g', hg, x, hx => by
    rcases List.mem_cons.1 hg with rfl | hg
    · exact Rep.lt _ _ _ h.2.1.rep x hx
    · exact Stk.ids_lt h.2.2.2.2.2.2 g' hg x hx
/-- One run more: a block of a larger level stands as it stood. -/
theorem Stk.step {nds : List Nd} {j : Nat} : ∀ {S : List G} {e : Nat}, Stk xs D lev bef prev nds j S e → e ≤ j → (∀ g ∈ S, lev j ≤ g.lv) → Stk xs D lev bef prev nds (j + 1) S e
  | [], _, h, _, _ => h
  | g :: L, e, h, he, hl => by
    refine ⟨h.1, h.2.1, fun i h1 h2 => ?_, h.2.2.2.1, h.2.2.2.2.1, h.2.2.2.2.2.1, Stk.step h.2.2.2.2.2.2 (by have := h.1; omega) (fun x hx => hl x (List.mem_cons_of_mem _ hx))⟩
    have h3 := h.2.2.1 i h1 h2
    have h4 := hl g (List.mem_cons_self ..)
    rw [show j + 1 - i = (j - i) + 1 by omega, need, h3, show i + (j - i) = j by omega]
    omega

theorem need_pos (lev : Nat → Int) (i : Nat) : ∀ k, 0 ≤ need lev i k
  | 0 => by simp [need]
  | k + 1 => by have := need_pos lev i k; simp only [need]; omega

/-- The state of the inner loop, with j runs seen and the run j at hand. -/
structure InOK (xs : Nat → Int) (D : Nat) (lev bef prev : Nat → Int) (nds : List Nd) (j : Nat) (S : List G) (s : Nat) (t : T) : Prop where
  stk : Stk xs D lev bef prev nds j S s
  le : s ≤ j
  tree : TreeOK xs D bef prev nds t s (j + 1)
  need : ∀ i, s ≤ i → i ≤ j → need lev i (j + 1 - i) = lev j
  apart : ∀ x ∈ t.ids, ∀ h ∈ S, x ∉ h.t.ids

theorem InOK.start {nds : List Nd} {j : Nat} {S : List G} (hD : 0 < D) (h : Stk xs D lev bef prev nds j S j) (hl : 0 ≤ lev j) (hg : Good xs D (prev j) (-bef j)) :
    InOK xs D lev bef prev (nds ++ [⟨prev j, -bef j, -1, -1⟩]) j S j (.node nds.length (prev j) (-bef j) .nil .nil) := by
  obtain ⟨n1, n2, n3⟩ := new_node (nds := nds) hg 0 (D - 1) (by omega)
  have hlt := h.ids_lt
  refine ⟨h.congr (by simp) (fun g hg x hx => ndAt_app _ (hlt g hg x hx)), Nat.le_refl _, ⟨n1, by simp [T.ids], n2, by simp [T.size], fun p hp => ?_⟩, fun i h1 h2 => ?_, fun x hx g hg => ?_⟩
  · rw [n3, show j + 1 - j = 1 by omega, Mn, Mn, hg p hp, Nat.add_zero, Int.neg_mul]
    simp only [lst]
    omega
  · obtain rfl : i = j := by omega
    rw [show i + 1 - i = 1 by omega, Go.Proofs.Qxb6614303a.need, Go.Proofs.Qxb6614303a.need, Nat.add_zero]
    omega
  · simp only [T.ids, List.append_nil, List.mem_singleton] at hx
    subst hx
    intro hx
    have := hlt g hg _ hx
    omega

theorem InOK.pop {nds nds' : List Nd} {j : Nat} {g : G} {L : List G} {s : Nat} {t t' : T} (h : InOK xs D lev bef prev nds j (g :: L) s t) (hlv : g.lv ≤ lev j) (hm : MrgT xs D t g.t nds nds' 0 (D - 1) t') : InOK xs D lev bef prev nds' j L g.s t' := by
  obtain ⟨h1, h2, h3, h4, h5, h6, h7⟩ := h.stk
  have hle := h.le
  have ht := h.tree
  refine ⟨h7.congr hm.len (fun x hx y hy => hm.same y (h7.ids_lt x hx y hy) (fun e => h.apart y e x (List.mem_cons_of_mem _ hx) hy) (fun e => h5 y e x hx hy)), by omega, ⟨hm.rep, hm.nodup, hm.good, ?_, fun p hp => ?_⟩, fun i h8 h9 => ?_, fun x hx y hy => ?_⟩
  · have := hm.sz
    have := ht.size
    have := h2.size
    omega
  · rw [hm.val p (Nat.zero_le _) (by omega), ht.val p hp, h2.val p hp, show j + 1 - g.s = (s - g.s) + (j + 1 - s) by omega, Mn_add, show g.s + (s - g.s) = s by omega]
    omega
  · by_cases hi : s ≤ i
    · exact h.need i hi h9
    · rw [show j + 1 - i = (j - i) + 1 by omega, Go.Proofs.Qxb6614303a.need, h3 i h8 (by omega), show i + (j - i) = j by omega]
      omega
  · rcases hm.ids x hx with e | e | e
    · exact h.apart x e y (List.mem_cons_of_mem _ hy)
    · exact h5 x e y hy
    · intro hxy
      have := h7.ids_lt y hy x hxy
      omega

theorem InOK.push {nds : List Nd} {j : Nat} {S : List G} {s : Nat} {t : T} (h : InOK xs D lev bef prev nds j S s t) (hlv : ∀ g ∈ S, lev j < g.lv) {p : Nat} (hp : p < D) (hx : xs p = lev j) : Stk xs D lev bef prev nds (j + 1) (⟨s, lev j, lst xs t 0 (D - 1) p Mx, t⟩ :: S) (j + 1) := by
  have hle := h.le
  refine ⟨by show s < j + 1; omega, h.tree, fun i h1 h2 => h.need i h1 (by omega), ?_, h.apart, hlv, h.stk.step hle (fun g hg => by have := hlv g hg; omega)⟩
  show lst xs t 0 (D - 1) p Mx = _
  rw [h.tree.val p hp, hx]
/-- Levels fall from the bottom to the top. -/
theorem Stk.above {nds : List Nd} {j : Nat} {g : G} {L : List G} {e : Nat} {v : Int} (h : Stk xs D lev bef prev nds j (g :: L) e) (hv : v < g.lv) : ∀ x ∈ g :: L, v < x.lv := by
  intro x hx
  rcases List.mem_cons.1 hx with rfl | hx
  · exact hv
  · have := h.2.2.2.2.2.1 x hx
    omega
end

/-! ### Bounds -/
/-- The numbers at hand: R runs of levels up to 2^41, at most 1024 slots, costs up to 2^51. -/
structure Bd (lev bef prev : Nat → Int) (R : Nat) : Prop where
  lev0 : ∀ i, i < R → 0 ≤ lev i ∧ lev i ≤ 2199023255552
  bef0 : ∀ i, i ≤ R → 0 ≤ bef i ∧ bef i ≤ 1024
  up : ∀ i j, i ≤ j → j ≤ R → bef i ≤ bef j
  p0 : prev 0 = 0
  prev0 : ∀ i, i ≤ R → 0 ≤ prev i ∧ prev i ≤ 2251799813685248

theorem bmul {a x : Int} (h1 : 0 ≤ a) (h2 : a ≤ 1024) (h3 : 0 ≤ x) (h4 : x ≤ 2199023255552) : 0 ≤ a * x ∧ a * x ≤ 2251799813685248 := by
  have := Int.mul_nonneg h1 h3
  have := Int.mul_le_mul h2 h4 h3 (by omega)
  omega
theorem need_le {lev : Nat → Int} {R : Nat} (h : ∀ i, i < R → 0 ≤ lev i ∧ lev i ≤ 2199023255552) (i : Nat) : ∀ k, i + k ≤ R → need lev i k ≤ 2199023255552
  | 0, _ => by simp [need]
  | k + 1, hk => by
    have := need_le h i k (by omega)
    have := (h (i + k) (by omega)).2
    simp only [need]
    omega
theorem evl_eq {a b x : Int} (h1 : -4611686018427387904 ≤ a) (h2 : a ≤ 4611686018427387904) (h3 : -2251799813685248 ≤ b * x) (h4 : b * x ≤ 2251799813685248) : evl a b x = a + b * x := by
  unfold evl
  generalize b * x = y at *
  unfold wrap64
  omega
theorem Bd.goodB {lev bef prev : Nat → Int} {R : Nat} (h : Bd lev bef prev R) {xs : Nat → Int} {D : Nat} (hx : ∀ p, p < D → 0 ≤ xs p ∧ xs p ≤ 2199023255552) {j : Nat} (hj : j ≤ R) : Good xs D (prev j) (-bef j) := by
  intro p hp
  have h1 := bmul (h.bef0 j hj).1 (h.bef0 j hj).2 (hx p hp).1 (hx p hp).2
  have h2 := h.prev0 j hj
  have h3 : -bef j * xs p = -(bef j * xs p) := by rw [Int.neg_mul]
  exact evl_eq (by omega) (by omega) (by omega) (by omega)

section
variable {xs : Nat → Int} {D : Nat} {lev bef prev : Nat → Int}
theorem Stk.lvbd {nds : List Nd} {j R : Nat} (hb : Bd lev bef prev R) (hj : j ≤ R) : ∀ {S : List G} {e : Nat}, Stk xs D lev bef prev nds j S e → e ≤ j → ∀ g ∈ S, 0 ≤ g.lv ∧ g.lv ≤ 2199023255552 ∧ -2251799813685248 ≤ g.best ∧ g.best ≤ 2251799813685248
  | [], _, _, _, g, hg => by cases hg
  | g :: L, e, h, he, x, hx => by
    rcases List.mem_cons.1 hx with rfl | hx
    · have h1 := h.2.2.1 x.s (Nat.le_refl _) h.1
      have h0 := h.1
      have h2 : 0 ≤ x.lv ∧ x.lv ≤ 2199023255552 := by
        rw [← h1]
        exact ⟨need_pos _ _ _, need_le hb.lev0 _ _ (by omega)⟩
      refine ⟨h2.1, h2.2, ?_, ?_⟩
      · rw [h.2.2.2.1]
        refine Mn_ge (by decide) fun i h3 h4 => ?_
        show -2251799813685248 ≤ prev i - bef i * x.lv
        have h5 := bmul (hb.bef0 i (by omega)).1 (hb.bef0 i (by omega)).2 h2.1 h2.2
        have := hb.prev0 i (by omega)
        omega
      · rw [h.2.2.2.1]
        have h3 := Mn_le (f := fun i => prev i - bef i * x.lv) (s := x.s) (k := e - x.s) x.s (Nat.le_refl _) (by omega)
        have h5 := bmul (hb.bef0 x.s (by omega)).1 (hb.bef0 x.s (by omega)).2 h2.1 h2.2
        have := hb.prev0 x.s (by omega)
        omega
    · exact Stk.lvbd hb hj h.2.2.2.2.2.2 (by have := h.1; omega) x hx
theorem Stk.good {nds : List Nd} {j R : Nat} (hb : Bd lev bef prev R) (hj : j ≤ R) {S : List G} {e : Nat} (h : Stk xs D lev bef prev nds j S e) (he : e ≤ j) : ∀ g ∈ S, Good (fun p => bef (p + 1)) R g.best g.lv := by
  intro g hg p hp
  obtain ⟨h1, h2, h3, h4⟩ := h.lvbd hb hj he g hg
  have h5 := bmul (hb.bef0 (p + 1) (by omega)).1 (hb.bef0 (p + 1) (by omega)).2 h1 h2
  rw [Int.mul_comm] at h5
  show evl g.best g.lv (bef (p + 1)) = g.best + g.lv * bef (p + 1)
  exact evl_eq (by omega) (by omega) (by omega) (by omega)

/-- The cost of covering the first j runs with one segment more, the last from the cut i on. -/
def cst (lev bef prev : Nat → Int) (j i : Nat) : Int := prev i + (bef j - bef i) * need lev i (j - i)
/-- The next row. -/
def nxt (lev bef prev : Nat → Int) (j : Nat) : Int := if j = 0 then 0 else Mn (cst lev bef prev j) 0 j

theorem cst_bd {R : Nat} (hb : Bd lev bef prev R) {i j : Nat} (hj : j ≤ R) (hi : i ≤ j) : 0 ≤ cst lev bef prev j i ∧ cst lev bef prev j i ≤ 4503599627370496 := by
  unfold cst
  have h1 := hb.up i j hi hj
  have h2 := hb.bef0 i (by omega)
  have h3 := hb.bef0 j (by omega)
  have h4 := bmul (a := bef j - bef i) (x := need lev i (j - i)) (by omega) (by omega) (need_pos _ _ _) (need_le hb.lev0 _ _ (by omega))
  have h5 := hb.prev0 i (by omega)
  omega

theorem Stk.ends {nds : List Nd} {j R : Nat} (hb : Bd lev bef prev R) (hj : j + 1 ≤ R) : ∀ {S : List G} {e : Nat}, Stk xs D lev bef prev nds (j + 1) S e → e ≤ j + 1 → endsMin (fun p => bef (p + 1)) j S = Mn (cst lev bef prev (j + 1)) 0 e
  | [], e, h, _ => by
    have h' : e = 0 := h
    subst h'
    rfl
  | g :: L, e, h, he => by
    have hgd := Stk.good hb hj h he g (List.mem_cons_self ..) j (by omega)
    have hbd := Stk.lvbd hb hj h he g (List.mem_cons_self ..)
    obtain ⟨h1, h2, h3, h4, h5, h6, h7⟩ := h
    have ih := Stk.ends hb hj h7 (by omega)
    have hs : Mn (cst lev bef prev (j + 1)) g.s (e - g.s) = g.best + g.lv * bef (j + 1) := by
      rw [h4]
      refine Mn_shift (g.lv * bef (j + 1)) (by omega) (fun i h8 h9 => ?_) (fun i h8 h9 => ?_)
      · simp only [cst]
        rw [h3 i h8 (by omega), Int.sub_mul, Int.mul_comm (bef (j + 1))]
        omega
      · have h10 := cst_bd hb hj (i := i) (by omega)
        simp only [cst] at h10
        rw [h3 i h8 (by omega), Int.sub_mul, Int.mul_comm (bef (j + 1))] at h10
        have h5 := bmul (hb.bef0 i (by omega)).1 (hb.bef0 i (by omega)).2 hbd.1 hbd.2.1
        have := hb.prev0 i (by omega)
        show prev i - bef i * g.lv ≤ Mx ∧ prev i - bef i * g.lv + g.lv * bef (j + 1) ≤ Mx
        constructor <;> (show _ ≤ (9223372036854775807 : Int)) <;> omega
    rw [endsMin, ih, hgd, ← hs, show Mn (cst lev bef prev (j + 1)) 0 e = Mn (cst lev bef prev (j + 1)) 0 (g.s + (e - g.s)) by rw [show g.s + (e - g.s) = e by omega], Mn_add, Nat.zero_add]
end
end Go.Proofs.Qxb6614303a

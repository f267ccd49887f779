/-
  Seat b6614303a. insert (51), mirrored by a plain function over the list of nodes.
-/
import Derived.Test.Qxb6614303aEnv2
import Derived.Deep.Cut
namespace Go.Proofs.Qxb6614303a
open Go.RowKit
set_option linter.unusedVariables false

def ndAt (nds : List Nd) (i : Nat) : Nd := nds.getD i ⟨0, 0, -1, -1⟩

/-- The insertion, a round a step: the nodes and the log. -/
def ins (xs : Nat → Int) (undo : Bool) : Nat → List Nd → List Chg → Nat → Nat → Nat → Int → Int → List Nd × List Chg
  | 0, nds, lg, _, _, _, _, _ => (nds, lg)
  | f + 1, nds, lg, i, lo, hi, a, b =>
    let mid := (lo + hi) / 2
    let d := ndAt nds i
    let sw := decide (evl a b (xs mid) < evl d.a d.b (xs mid))
    let lg1 := if sw = true then (if undo = true then lg ++ [⟨i, d.a, d.b, false, false⟩] else lg) else lg
    let ka := if sw = true then a else d.a
    let kb := if sw = true then b else d.b
    let la := if sw = true then d.a else a
    let lb := if sw = true then d.b else b
    let nds1 := if sw = true then nds.set i ⟨a, b, d.l, d.r⟩ else nds
    if lo = hi then (nds1, lg1)
    else if evl la lb (xs lo) < evl ka kb (xs lo) then
      if d.l = -1 then (nds1.set i ⟨ka, kb, nds1.length, d.r⟩ ++ [⟨la, lb, -1, -1⟩], if undo = true then lg1 ++ [⟨i, 0, 0, true, true⟩] else lg1)
      else ins xs undo f nds1 lg1 d.l.toNat lo mid la lb
    else if evl la lb (xs hi) < evl ka kb (xs hi) then
      if d.r = -1 then (nds1.set i ⟨ka, kb, d.l, nds1.length⟩ ++ [⟨la, lb, -1, -1⟩], if undo = true then lg1 ++ [⟨i, 0, 0, true, false⟩] else lg1)
      else ins xs undo f nds1 lg1 d.r.toNat (mid + 1) hi la lb
    else (nds1, lg1)

/-- The round behind the swap. -/
def insRest (xs : Nat → Int) (undo : Bool) (f : Nat) (nds : List Nd) (lg : List Chg) (i lo hi : Nat) (la lb ka kb dl dr : Int) : List Nd × List Chg :=
  if lo = hi then (nds, lg)
  else if evl la lb (xs lo) < evl ka kb (xs lo) then
    if dl = -1 then (nds.set i ⟨ka, kb, nds.length, dr⟩ ++ [⟨la, lb, -1, -1⟩], if undo = true then lg ++ [⟨i, 0, 0, true, true⟩] else lg)
    else ins xs undo f nds lg dl.toNat lo ((lo + hi) / 2) la lb
  else if evl la lb (xs hi) < evl ka kb (xs hi) then
    if dr = -1 then (nds.set i ⟨ka, kb, dl, nds.length⟩ ++ [⟨la, lb, -1, -1⟩], if undo = true then lg ++ [⟨i, 0, 0, true, false⟩] else lg)
    else ins xs undo f nds lg dr.toNat ((lo + hi) / 2 + 1) hi la lb
  else (nds, lg)
theorem ins_sw {xs : Nat → Int} {undo : Bool} {f : Nat} {nds : List Nd} {lg : List Chg} {i lo hi : Nat} {a b : Int} {d : Nd} (hd : ndAt nds i = d) (hsw : evl a b (xs ((lo + hi) / 2)) < evl d.a d.b (xs ((lo + hi) / 2))) :
    ins xs undo (f + 1) nds lg i lo hi a b = insRest xs undo f (nds.set i ⟨a, b, d.l, d.r⟩) (if undo = true then lg ++ [⟨i, d.a, d.b, false, false⟩] else lg) i lo hi d.a d.b a b d.l d.r := by
  subst hd
  rw [ins]
  simp only [hsw, decide_true, if_true, insRest]
theorem ins_nsw {xs : Nat → Int} {undo : Bool} {f : Nat} {nds : List Nd} {lg : List Chg} {i lo hi : Nat} {a b : Int} {d : Nd} (hd : ndAt nds i = d) (hsw : ¬ evl a b (xs ((lo + hi) / 2)) < evl d.a d.b (xs ((lo + hi) / 2))) :
    ins xs undo (f + 1) nds lg i lo hi a b = insRest xs undo f nds lg i lo hi a b d.a d.b d.l d.r := by
  subst hd
  rw [ins]
  simp only [hsw, decide_false, Bool.false_eq_true, if_false, insRest]

/-- Every child is none, or a node. -/
def Safe (nds : List Nd) : Prop := ∀ i, i < nds.length → ((ndAt nds i).l = -1 ∨ (0 ≤ (ndAt nds i).l ∧ (ndAt nds i).l < nds.length)) ∧ ((ndAt nds i).r = -1 ∨ (0 ≤ (ndAt nds i).r ∧ (ndAt nds i).r < nds.length))

theorem keepc {w w' : World} {p : Addr} {v : Value} (h : w.cell? p = some v) (hb : Below w.heap.size w w') : w'.cell? p = some v :=
  (hb.cell (World.block_lt_of_cell? _ _ h)).trans h

theorem EnvAt.node {A : Nat → Prop} {w : World} {b o : Nat} {c : Array Value} {xv nd lgv : Value} {undo : Bool} {nds : List Nd} {lg : List Chg} (h : EnvAt A w b o c xv nd lgv undo nds lg) {i : Nat} (hi : i < nds.length) :
    ∃ g z, nd = .slice (some ⟨g, 0, none⟩) nds.length z ∧ w.cell? ⟨g, i * 4, none⟩ = some (.int .i64 (ndAt nds i).a) ∧ w.cell? ⟨g, i * 4 + 1, none⟩ = some (.int .i64 (ndAt nds i).b) ∧ w.cell? ⟨g, i * 4 + 2, none⟩ = some (.int .i64 (ndAt nds i).l) ∧ w.cell? ⟨g, i * 4 + 3, none⟩ = some (.int .i64 (ndAt nds i).r) ∧ ∀ j, w.frozen? ⟨g, j, none⟩ = false := by
  have h0 := h.rowN
  obtain ⟨g, z, rfl⟩ : ∃ g z, nd = .slice (some ⟨g, 0, none⟩) nds.length z := by
    rcases h0.2 with ⟨_, hz⟩ | ⟨g, cap, cur, rfl, _⟩
    · omega
    · exact ⟨g, cap, rfl⟩
  have hg : nds[i]? = some (ndAt nds i) := by rw [ndAt, List.getD, List.getElem?_eq_getElem hi]; rfl
  have hc : ∀ j, j < 4 → w.cell? ⟨g, i * 4 + j, none⟩ = (ndAt nds i).cs[j]? := by
    intro j hj
    rw [h0.cellAt (i * 4 + j) (by omega), flat4, flat_get Nd.cs 4 (fun _ => rfl) nds i j hj, hg]
    rfl
  exact ⟨g, z, rfl, hc 0 (by omega), hc 1 (by omega), hc 2 (by omega), hc 3 (by omega), fun j => h0.frozenAt j⟩

theorem EnvAt.block {A : Nat → Prop} {w w' : World} {b o : Nat} {c : Array Value} {xv nd nd' lgv : Value} {undo : Bool} {nds nds' : List Nd} {lg : List Chg} (h : EnvAt A w b o c xv nd lgv undo nds lg) (hs : w.heap.size ≤ w'.heap.size) (hb : w'.heap[b]? = w.heap[b]?)
    (hn : w'.ownsRow 0 116 4 nd nds'.length (flat4 nds')) (hl : ∀ k, lgv.ownBlock = some k → w'.heap[k]? = w.heap[k]?) : EnvAt A w' b o c xv nd lgv undo nds' lg :=
  ⟨hb.trans h.blk, h.h0, h.h1, h.h2, h.h3, hn, owns_of_block h.rowL hl, fun k hk => ⟨by have := (h.av k hk).1; omega, (h.av k hk).2⟩⟩

/-- A store into one cell of a node. -/
theorem EnvAt.setNode {A : Nat → Prop} {w : World} {b o : Nat} {c : Array Value} {xv lgv : Value} {g n z : Nat} {undo : Bool} {nds : List Nd} {lg : List Chg} (h : EnvAt A w b o c xv (.slice (some ⟨g, 0, none⟩) n z) lgv undo nds lg) (i j : Nat) (d : Nd) (u : Value) (hi : i < nds.length) (hj : j < 4)
    (hd : d.cs = (ndAt nds i).cs.set j u) : EnvAt A (w.setCell ⟨g, i * 4 + j, none⟩ u) b o c xv (.slice (some ⟨g, 0, none⟩) n z) lgv undo (nds.set i d) lg ∧ Keeps A w (w.setCell ⟨g, i * 4 + j, none⟩ u) := by
  have hg : nds[i]? = some (ndAt nds i) := by rw [ndAt, List.getD, List.getElem?_eq_getElem hi]; rfl
  have hn : n = nds.length := by
    obtain ⟨x, z', e⟩ := owns_shape h.rowN
    injection e
  subst hn
  have hA : ¬ A g := fun e => (h.av g e).2.2.1 (by simp [Value.ownBlock])
  have hbg : b ≠ g := fun e => h.bN (by simp [Value.ownBlock, e])
  refine ⟨h.block (nd' := lgv) (by simp [World.setCell]) (Below.heap_setCell _ _ _ _ hbg) ?_ ?_, (Keeps.refl A w).setCell hA _⟩
  · have := h.rowN.stored (i * 4 + j) u
    rw [List.length_set, flat4, ← flat_set Nd.cs 4 (fun _ => rfl) nds i j _ d u hj hg hd]
    exact this.1
  · intro k hk
    refine Below.heap_setCell _ _ _ _ (fun e => ?_)
    have e2 : k = g := e
    exact owns_apart h.rowN h.rowL (by decide) (k := g) (by simp [Value.ownBlock]) (by rw [← e2]; exact hk.symm)

theorem ndAt_set {nds : List Nd} {i : Nat} (d : Nd) (hi : i < nds.length) : ndAt (nds.set i d) i = d := by
  unfold ndAt
  rw [List.getD, List.getElem?_set_self hi]
  rfl
theorem ndAt_set_ne {nds : List Nd} {i j : Nat} (d : Nd) (h : i ≠ j) : ndAt (nds.set i d) j = ndAt nds j := by
  unfold ndAt
  rw [List.getD, List.getD, List.getElem?_set_ne h]
theorem Safe.line {nds : List Nd} (h : Safe nds) {i : Nat} (hi : i < nds.length) {d : Nd} (hd : ndAt nds i = d) (a b : Int) : Safe (nds.set i ⟨a, b, d.l, d.r⟩) := by
  intro j hj
  rw [List.length_set] at hj ⊢
  by_cases e : i = j
  · subst e
    rw [ndAt_set _ hi, ← hd]
    exact h i hi
  · rw [ndAt_set_ne _ e]
    exact h j hj
theorem set_set_nd {nds : List Nd} (i : Nat) (d e : Nd) : (nds.set i d).set i e = nds.set i e := by simp

/-- The two cells of a node's line. -/
theorem EnvAt.setLine {A : Nat → Prop} {w : World} {b o : Nat} {c : Array Value} {xv lgv : Value} {g n z : Nat} {undo : Bool} {nds : List Nd} {lg : List Chg} (h : EnvAt A w b o c xv (.slice (some ⟨g, 0, none⟩) n z) lgv undo nds lg) (i : Nat) (a b2 : Int) (hi : i < nds.length) :
    EnvAt A ((w.setCell ⟨g, i * 4, none⟩ (.int .i64 a)).setCell ⟨g, i * 4 + 1, none⟩ (.int .i64 b2)) b o c xv (.slice (some ⟨g, 0, none⟩) n z) lgv undo (nds.set i ⟨a, b2, (ndAt nds i).l, (ndAt nds i).r⟩) lg ∧ Keeps A w ((w.setCell ⟨g, i * 4, none⟩ (.int .i64 a)).setCell ⟨g, i * 4 + 1, none⟩ (.int .i64 b2)) := by
  obtain ⟨h1, k1⟩ := h.setNode i 0 ⟨a, (ndAt nds i).b, (ndAt nds i).l, (ndAt nds i).r⟩ (.int .i64 a) hi (by omega) rfl
  obtain ⟨h2, k2⟩ := h1.setNode i 1 ⟨a, b2, (ndAt nds i).l, (ndAt nds i).r⟩ (.int .i64 b2) (by simpa using hi) (by omega) (by rw [ndAt_set _ hi]; rfl)
  rw [set_set_nd] at h2
  exact ⟨h2, k1.trans k2⟩

/-- A box beside the envelope. -/
theorem EnvAt.widen {A : Nat → Prop} {w : World} {b o : Nat} {c : Array Value} {xv nd lgv : Value} {undo : Bool} {nds : List Nd} {lg : List Chg} (h : EnvAt A w b o c xv nd lgv undo nds lg) {k : Nat} {cs : Array Value} {t : TypeId} (hk : w.heap[k]? = some (.cells cs t (0, 0))) (h1 : t ≠ 72) (h2 : t ≠ 116) (h3 : t ≠ 118) :
    EnvAt (fun j => A j ∨ j = k) w b o c xv nd lgv undo nds lg := by
  refine ⟨h.blk, h.h0, h.h1, h.h2, h.h3, h.rowN, h.rowL, fun j hj => ?_⟩
  rcases hj with hj | rfl
  · exact h.av j hj
  · refine ⟨(Array.getElem?_eq_some_iff.1 hk).1, fun e => ?_, fun e => ?_, fun e => ?_⟩
    · have hb := h.blk
      rw [← e, hk] at hb
      simp at hb
      exact h1 hb.2
    · obtain ⟨c', hc'⟩ := owns_tag h.rowN e.symm
      rw [hk] at hc'
      simp at hc'
      exact h2 hc'.2
    · obtain ⟨c', hc'⟩ := owns_tag h.rowL e.symm
      rw [hk] at hc'
      simp at hc'
      exact h3 hc'.2
theorem EnvAt.narrow {A A' : Nat → Prop} {w : World} {b o : Nat} {c : Array Value} {xv nd lgv : Value} {undo : Bool} {nds : List Nd} {lg : List Chg} (h : EnvAt A w b o c xv nd lgv undo nds lg) (hA : ∀ k, A' k → A k) : EnvAt A' w b o c xv nd lgv undo nds lg :=
  ⟨h.blk, h.h0, h.h1, h.h2, h.h3, h.rowN, h.rowL, fun k hk => h.av k (hA k hk)⟩
theorem Keeps.narrow {A A' : Nat → Prop} {w w' : World} (h : Keeps A w w') (hA : ∀ k, A' k → A k) : Keeps A' w w' := ⟨h.os, h.tape, h.output, h.size, fun k hk => h.block k (hA k hk)⟩

/-- A box that holds a line. -/
def Box94 (w : World) (k : Nat) (a b : Int) : Prop := w.heap[k]? = some (.cells #[.int .i64 a, .int .i64 b] 94 (0, 0))
theorem Box94.cells {w : World} {k : Nat} {a b : Int} (h : Box94 w k a b) : w.cell? ⟨k, 0, none⟩ = some (.int .i64 a) ∧ w.cell? ⟨k, 1, none⟩ = some (.int .i64 b) ∧ w.frozen? ⟨k, 0, none⟩ = false ∧ w.frozen? ⟨k, 1, none⟩ = false ∧ k < w.heap.size := by
  have h' : w.heap[k]? = _ := h
  exact ⟨by simp [World.cell?, h'], by simp [World.cell?, h'], by simp [World.frozen?, h'], by simp [World.frozen?, h'], (Array.getElem?_eq_some_iff.1 h').1⟩
theorem Box94.later {w w' : World} {k : Nat} {a b : Int} (h : Box94 w k a b) (hb : Below w.heap.size w w') : Box94 w' k a b := (hb.block k (Array.getElem?_eq_some_iff.1 h).1).trans h
theorem Box94.set {w : World} {k : Nat} {a b : Int} (h : Box94 w k a b) (a' b' : Int) : Box94 ((w.setCell ⟨k, 0, none⟩ (.int .i64 a')).setCell ⟨k, 1, none⟩ (.int .i64 b')) k a' b' := by
  have h' : w.heap[k]? = _ := h
  simp [Box94, World.setCell, Array.getElem?_modify, h']

theorem EnvAt.setBox {A : Nat → Prop} {w : World} {b o : Nat} {c : Array Value} {xv nd lgv : Value} {undo : Bool} {nds : List Nd} {lg : List Chg} (h : EnvAt A w b o c xv nd lgv undo nds lg) {k : Nat} {cs : Array Value} {t : TypeId} (hk : w.heap[k]? = some (.cells cs t (0, 0))) (h1 : t ≠ 72) (h2 : t ≠ 116) (h3 : t ≠ 118) (p : Nat) (v : Value) :
    EnvAt A (w.setCell ⟨k, p, none⟩ v) b o c xv nd lgv undo nds lg := by
  have hv := (h.widen hk h1 h2 h3).av k (.inr rfl)
  refine h.block (nd' := nd) (by simp [World.setCell]) (Below.heap_setCell _ _ _ _ (fun e => hv.2.1 e.symm)) (owns_of_block h.rowN fun j hj => Below.heap_setCell _ _ _ _ (fun e => hv.2.2.1 ?_)) (fun j hj => Below.heap_setCell _ _ _ _ (fun e => hv.2.2.2 ?_))
  · have e2 : j = k := e
    rw [← e2]; exact hj.symm
  · have e2 : j = k := e
    rw [← e2]; exact hj.symm

theorem EnvAt.drew {A : Nat → Prop} {w : World} {b o : Nat} {c : Array Value} {xv nd lgv : Value} {undo : Bool} {nds : List Nd} {lg : List Chg} (h : EnvAt A w b o c xv nd lgv undo nds lg) : EnvAt A w.drew b o c xv nd lgv undo nds lg := ⟨h.blk, h.h0, h.h1, h.h2, h.h3, h.rowN, h.rowL, h.av⟩
theorem Box94.drew {w : World} {k : Nat} {a b : Int} (h : Box94 w k a b) : Box94 w.drew k a b := h
theorem Box94.half {w : World} {k : Nat} {a b : Int} (h : Box94 w k a b) (v : Value) : ∃ cs, (w.setCell ⟨k, 0, none⟩ v).heap[k]? = some (.cells cs 94 (0, 0)) := by
  have h' : w.heap[k]? = _ := h
  exact ⟨#[v, .int .i64 b], by simp [World.setCell, Array.getElem?_modify, h']⟩

set_option maxHeartbeats 1000000 in
/-- What the swap leaves. -/
theorem EnvAt.swapped {A : Nat → Prop} {w : World} {b o : Nat} {c : Array Value} {xv lgv : Value} {g n z : Nat} {undo : Bool} {nds : List Nd} {lg : List Chg} (h : EnvAt A w b o c xv (.slice (some ⟨g, 0, none⟩) n z) lgv undo nds lg) {bx : Nat} {la lb : Int} (hb : Box94 w bx la lb) (hA : ¬ A bx) {i : Nat} (hi : i < nds.length) (d : Nd) (hd : ndAt nds i = d) :
    EnvAt A ((((w.setCell ⟨g, i * 4, none⟩ (.int .i64 la)).setCell ⟨g, i * 4 + 1, none⟩ (.int .i64 lb)).setCell ⟨bx, 0, none⟩ (.int .i64 d.a)).setCell ⟨bx, 1, none⟩ (.int .i64 d.b)).drew b o c xv (.slice (some ⟨g, 0, none⟩) n z) lgv undo (nds.set i ⟨la, lb, d.l, d.r⟩) lg ∧
    Keeps A w ((((w.setCell ⟨g, i * 4, none⟩ (.int .i64 la)).setCell ⟨g, i * 4 + 1, none⟩ (.int .i64 lb)).setCell ⟨bx, 0, none⟩ (.int .i64 d.a)).setCell ⟨bx, 1, none⟩ (.int .i64 d.b)).drew ∧
    Box94 ((((w.setCell ⟨g, i * 4, none⟩ (.int .i64 la)).setCell ⟨g, i * 4 + 1, none⟩ (.int .i64 lb)).setCell ⟨bx, 0, none⟩ (.int .i64 d.a)).setCell ⟨bx, 1, none⟩ (.int .i64 d.b)).drew bx d.a d.b := by
  subst hd
  have hv := (h.widen hb (by decide) (by decide) (by decide)).av bx (.inr rfl)
  have hgb : bx ≠ g := by simpa [Value.ownBlock] using hv.2.2.1
  obtain ⟨h1, k1⟩ := h.setLine i la lb hi
  have hb1 : Box94 ((w.setCell ⟨g, i * 4, none⟩ (.int .i64 la)).setCell ⟨g, i * 4 + 1, none⟩ (.int .i64 lb)) bx la lb := by
    unfold Box94 at hb ⊢
    rw [Below.heap_setCell _ _ _ _ hgb, Below.heap_setCell _ _ _ _ hgb]
    exact hb
  have h2 := h1.setBox hb1 (by decide) (by decide) (by decide) 0 (.int .i64 (ndAt nds i).a)
  have hb2 := Box94.half hb1 (.int .i64 (ndAt nds i).a)
  obtain ⟨cs, hb2⟩ := hb2
  have h3 := h2.setBox hb2 (by decide) (by decide) (by decide) 1 (.int .i64 (ndAt nds i).b)
  exact ⟨h3.drew, ((k1.setCell hA _).setCell hA _).drew, (hb1.set _ _).drew⟩

/-- The points: a row that stands. -/
def Xs (w : World) (xa : Nat) (xo xn : Nat) (xs : Nat → Int) : Prop := ∀ j, j < xn → w.cell? ⟨xa, xo + j, none⟩ = some (.int .i64 (xs j))

/-- The state between the rounds: the box with the line that is inserted, the envelope. -/
def InsSt (A : Nat → Prop) (w0 : World) (b o : Nat) (c : Array Value) (xv : Value) (undo : Bool) (bx : Nat) (nds : List Nd) (lg : List Chg) (la lb : Int) (wr : World) : Prop :=
  Keeps A w0 wr ∧ Box94 wr bx la lb ∧ ∃ nd lgv, EnvAt A wr b o ((c.setIfInBounds (o + 1) nd).setIfInBounds (o + 3) lgv) xv nd lgv undo nds lg

end Go.Proofs.Qxb6614303a

/-
  Seat b6614303a. The envelope's small operations: at (64), tree (46), emptyTree (45), record (65), mark (50), reset (44).
-/
import Derived.Test.Qxb6614303aEnv
import Derived.Deep.RegionLaw
import Derived.Handy
namespace Go.Proofs.Qxb6614303a
open Go.RowKit
set_option linter.unusedVariables false

theorem hid {p : Prop} (h : p) : Hid p := h

/-- What a line takes at x, as Go reckons it. -/
def evl (a b x : Int) : Int := wrap64 (a + wrap64 (b * x))

def AtEnd (a b x : Int) (w : World) (e : Ending) (w' : World) : Prop := e = .returned (.int .i64 (evl a b x)) ∧ Below w.heap.size w w'

set_option maxHeartbeats 400000 in
theorem at_any (a b x : Int) (w : World) : Calls Try.prog 64 #[.agg #[.int .i64 a, .int .i64 b], .int .i64 x] w (AtEnd a b x w) := by
  go_enter Try.func64, Try.ntmps64
  go_wp2
  go_ret
  exact ⟨rfl, (Below.refl _ _).alloc (Nat.le_refl _) _⟩

/-- The nodes' slice is stored anew behind a growing of the nodes' row. -/
theorem EnvAt.setN {A : Nat → Prop} {w w' : World} {b o : Nat} {c : Array Value} {xv nd lgv : Value} {undo : Bool} {nds : List Nd} {lg : List Chg} (h : EnvAt A w b o c xv nd lgv undo nds lg) {nd' : Value} {nds' : List Nd}
    (hg : w.grownBy w' nd.ownBlock) (hr : w'.ownsRow 0 116 4 nd' nds'.length (flat4 nds')) (hat : nd'.ownBlock = nd.ownBlock ∨ nd'.ownBlock = some w.heap.size) :
    w'.cell? ⟨b, o + 1, none⟩ = some nd ∧ w'.frozen? ⟨b, o + 1, none⟩ = false ∧ Keeps A w (w'.setCell ⟨b, o + 1, none⟩ nd') ∧ EnvAt A (w'.setCell ⟨b, o + 1, none⟩ nd') b o ((c.setIfInBounds (o + 1) nd').setIfInBounds (o + 3) lgv) xv nd' lgv undo nds' lg := by
  have hblk : w'.heap[b]? = some (.cells c 72 (0, 0)) := (hg.block b h.lt h.bN).trans h.blk
  have hb : some b ≠ nd'.ownBlock := by
    intro e
    obtain ⟨c', hc'⟩ := owns_tag hr e.symm
    rw [hblk] at hc'
    simp at hc'
  have hA : ∀ k, A k → some k ≠ nd'.ownBlock := by
    intro k hk
    rcases hat with e | e
    · rw [e]; exact (h.av k hk).2.2.1
    · rw [e]; have := (h.av k hk).1; simp; omega
  have hrl : w'.ownsRow 0 118 5 lgv lg.length (flat5 lg) := owns_of_block h.rowL fun k hk => hg.block k (owns_lt h.rowL hk) (owns_apart h.rowL h.rowN (by decide) hk)
  have hc1 : o + 1 < c.size := (Array.getElem?_eq_some_iff.1 h.h1).1
  have hc3 : o + 3 < c.size := (Array.getElem?_eq_some_iff.1 h.h3).1
  have e3 : (c.setIfInBounds (o + 1) nd').setIfInBounds (o + 3) lgv = c.setIfInBounds (o + 1) nd' := by
    apply Array.ext_getElem?
    intro j
    rw [Array.getElem?_setIfInBounds]
    by_cases hj : o + 3 = j
    · subst hj
      rw [if_pos rfl, if_pos (by simpa using hc3), Array.getElem?_setIfInBounds, if_neg (by omega), h.h3]
    · rw [if_neg hj]
  rw [e3]
  refine ⟨by simp [World.cell?, hblk, h.h1], by simp [World.frozen?, hblk], ((Keeps.refl A w).grown hg h.alt (fun k hk => (h.av k hk).2.2.1)).setCell h.nA _, ?_⟩
  refine ⟨?_, ?_, ?_, ?_, ?_, ?_, ?_, fun k hk => ⟨by have := (h.av k hk).1; have := hg.size; simp [World.setCell]; omega, (h.av k hk).2.1, hA k hk, (h.av k hk).2.2.2⟩⟩
  · simp [World.setCell, Array.getElem?_modify, hblk]
  · rw [Array.getElem?_setIfInBounds, if_neg (by omega), h.h0]
  · rw [Array.getElem?_setIfInBounds, if_pos rfl, if_pos hc1]
  · rw [Array.getElem?_setIfInBounds, if_neg (by omega), h.h2]
  · rw [Array.getElem?_setIfInBounds, if_neg (by omega), h.h3]
  · exact owns_of_block hr fun k hk => Below.heap_setCell _ _ _ _ (fun e => hb (by have e2 : k = b := e; rw [← e2]; exact hk.symm))
  · exact owns_of_block hrl fun k hk => Below.heap_setCell _ _ _ _ (fun e => h.bL (by have e2 : k = b := e; rw [← e2]; exact hk.symm))

theorem new_cells (w : World) (cs : List Value) (t : TypeId) : ∀ j u, cs[j]? = some u → (w.alloc (.cells cs.toArray t)).cell? ((⟨w.heap.size, 0, none⟩ : Addr).add j) = some u := by
  intro j u h
  rw [Addr.add_mid]
  simpa using h

/-- A row of another type stands under a growing row. -/
theorem owns_grown {w w' : World} {base : Nat} {e : TypeId} {s : Nat} {v : Value} {n : Nat} {xs : List Value} {row : Option Nat} (h : w.ownsRow base e s v n xs) (hg : w.grownBy w' row) (hne : ∀ k, v.ownBlock = some k → some k ≠ row) : w'.ownsRow base e s v n xs :=
  owns_of_block h fun k hk => hg.block k (owns_lt h hk) (hne k hk)

theorem step_append_nd {ops : Array Oper} {op : Oper} {a : Act} {w : World} {K : Act → World → Prop} {Q : Exit → Act → World → Prop} {E : Prop} (hgd : op.guard = none) (s x : Operand)
    (ho : op.op = .call { callee := .builtin .append, args := #[s, x], argTypes := #[67, 67] })
    (v : Value) (nds : List Nd) (hs : a.eval s = v) (hown : w.ownsRow 0 116 4 v nds.length (flat4 nds))
    (ad : Addr) (d : Nd) (hx : a.eval x = .slice (some ad) 1 1) (hsrc : ∀ j u, d.cs[j]? = some u → w.cell? (ad.add j) = some u) (hb : nds.length + 1 ≤ 1099511627776)
    (h : ∀ x' z' w', w'.ownsRow 0 116 4 (.slice x' (nds.length + 1) z') (nds ++ [d]).length (flat4 (nds ++ [d])) → w.grownBy w' v.ownBlock → ((Value.slice x' (nds.length + 1) z').ownBlock = v.ownBlock ∨ (Value.slice x' (nds.length + 1) z').ownBlock = some w.heap.size) → K (a.put op.dst (.slice x' (nds.length + 1) z')) w') :
    if Region.wanted op (yielded ops a.tmps) = true then Oper.wp Try.prog op a w K Q else E := by
  have hw : Region.wanted op (yielded ops a.tmps) = true := by simp [Region.wanted, hgd]
  rw [if_pos hw]
  obtain ⟨i0, hi, hii⟩ := Option.map_eq_some_iff.1 info116
  simp only [Prod.mk.injEq] at hii
  obtain ⟨v', w', hr, h2, h3, h4, h5⟩ := run_append_own_at (P := Try.prog) w 0 67 op.type 116 i0 _ 4 32 Try.underlying67 hi hii.1 hii.2.1 hii.2.2 rfl (by decide) v nds.length (flat4 nds) hown ad 1 1 d.cs (by simp [Nd.cs]) hsrc (by simp [Nd.cs, Value.oneCell']) (by unfold maxLen; omega) (by omega) (Nat.zero_le _)
  unfold Oper.wp execOp
  simp only [ho, resolve, invoke, builtin, Sem.run_bind, Sem.run_pure, Result.andThen_ok, List.map_toArray, List.map_cons, List.map_nil, hs, hx, hr]
  obtain ⟨x', z', rfl⟩ := owns_shape h2
  exact h x' z' w' (by simpa [flat4] using h2) h3 h5

def TreeEnd (A : Nat → Prop) (b o : Nat) (c : Array Value) (xv : Value) (undo : Bool) (nds : List Nd) (lg : List Chg) (d : Nd) (w : World) (e : Ending) (w' : World) : Prop :=
  e = .returned (.int .i64 (nds.length : Int)) ∧ EnvEnd A b o c xv undo (nds ++ [d]) lg w w'

set_option maxRecDepth 100000 in
set_option maxHeartbeats 4000000 in
theorem tree_any (A : Nat → Prop) (b o : Nat) (c : Array Value) (xv nd lgv : Value) (undo : Bool) (nds : List Nd) (lg : List Chg) (la lb : Int) (w : World)
    (h : EnvAt A w b o c xv nd lgv undo nds lg) (hn : nds.length + 1 ≤ 1099511627776) :
    Calls Try.prog 46 #[.pointer (some ⟨b, o, none⟩), .agg #[.int .i64 la, .int .i64 lb]] w (TreeEnd A b o c xv undo nds lg ⟨la, lb, -1, -1⟩ w) := by
  obtain ⟨nx, nz, rfl⟩ := owns_shape h.rowN
  have e1 := h.cellN
  have f1 := h.frz (o + 1)
  have hlt := h.lt
  have H := hid h
  clear h
  go_enter Try.func46, Try.ntmps46
  go_wp2_with fail
  have HB : Hid (Below w.heap.size w ((w.alloc (.cells #[.int .i64 la, .int .i64 lb] 94)).alloc (.cells #[.int .i64 la, .int .i64 lb, .int .i64 (-1), .int .i64 (-1)] 116)).drew) := (((Below.refl _ _).alloc (Nat.le_refl _) _).alloc (by simp) _).drew
  have HC : Hid (∀ j u, (Nd.cs ⟨la, lb, -1, -1⟩)[j]? = some u → ((w.alloc (.cells #[.int .i64 la, .int .i64 lb] 94)).alloc (.cells #[.int .i64 la, .int .i64 lb, .int .i64 (-1), .int .i64 (-1)] 116)).drew.cell? ((⟨w.heap.size + 1, 0, none⟩ : Addr).add j) = some u) := by
    intro j u hu
    have h1 := new_cells (w.alloc (.cells #[.int .i64 la, .int .i64 lb] 94)) (Nd.cs ⟨la, lb, -1, -1⟩) 116 j u hu
    rw [World.size_alloc] at h1
    exact h1
  go_region_law (first
    | (refine step_append_nd rfl _ _ rfl _ nds rfl (owns_later H.out.rowN HB.out) _ ⟨la, lb, -1, -1⟩ rfl HC.out hn ?_; intro x' z' w' hown' hgr' hat'; obtain ⟨q1, q2, q3, q4⟩ := EnvAt.setN (EnvAt.later H.out HB.out) hgr' hown' hat'; have Q3 := hid q3; have Q4 := hid q4; clear q3 q4))
  all_goals
    have q5 := (Q4.out).cellN
    go_wp2
  all_goals
    go_ret
    refine ⟨by go_num, ?_, _, _, Q4.out⟩
    exact ((Keeps.refl A w).below HB.out (EnvAt.alt H.out)).trans Q3.out

set_option maxRecDepth 100000 in
set_option maxHeartbeats 1000000 in
theorem emptyTree_any (A : Nat → Prop) (b o : Nat) (c : Array Value) (xv nd lgv : Value) (undo : Bool) (nds : List Nd) (lg : List Chg) (w : World)
    (h : EnvAt A w b o c xv nd lgv undo nds lg) (hn : nds.length + 1 ≤ 1099511627776) :
    Calls Try.prog 45 #[.pointer (some ⟨b, o, none⟩)] w (TreeEnd A b o c xv undo nds lg ⟨9223372036854775807, 0, -1, -1⟩ w) := by
  have H := hid h
  clear h
  go_enter Try.func45, Try.ntmps45
  go_wp2_with fail
  refine (tree_any A b o c xv nd lgv undo nds lg _ _ w H.out hn).mono ?_
  rintro e w1 ⟨rfl, h1⟩
  have H1 := hid h1
  clear h1
  go_wp2
  go_ret
  exact ⟨rfl, H1.out⟩

/-- The log's slice is stored anew behind a growing of the log's row. -/
theorem EnvAt.setL {A : Nat → Prop} {w w' : World} {b o : Nat} {c : Array Value} {xv nd lgv : Value} {undo : Bool} {nds : List Nd} {lg : List Chg} (h : EnvAt A w b o c xv nd lgv undo nds lg) {lgv' : Value} {lg' : List Chg}
    (hg : w.grownBy w' lgv.ownBlock) (hr : w'.ownsRow 0 118 5 lgv' lg'.length (flat5 lg')) (hat : lgv'.ownBlock = lgv.ownBlock ∨ lgv'.ownBlock = some w.heap.size) :
    w'.cell? ⟨b, o + 3, none⟩ = some lgv ∧ w'.frozen? ⟨b, o + 3, none⟩ = false ∧ Keeps A w (w'.setCell ⟨b, o + 3, none⟩ lgv') ∧ EnvAt A (w'.setCell ⟨b, o + 3, none⟩ lgv') b o ((c.setIfInBounds (o + 1) nd).setIfInBounds (o + 3) lgv') xv nd lgv' undo nds lg' := by
  have hblk : w'.heap[b]? = some (.cells c 72 (0, 0)) := (hg.block b h.lt h.bL).trans h.blk
  have hb : some b ≠ lgv'.ownBlock := by
    intro e
    obtain ⟨c', hc'⟩ := owns_tag hr e.symm
    rw [hblk] at hc'
    simp at hc'
  have hA : ∀ k, A k → some k ≠ lgv'.ownBlock := by
    intro k hk
    rcases hat with e | e
    · rw [e]; exact (h.av k hk).2.2.2
    · rw [e]; have := (h.av k hk).1; simp; omega
  have hrn : w'.ownsRow 0 116 4 nd nds.length (flat4 nds) := owns_of_block h.rowN fun k hk => hg.block k (owns_lt h.rowN hk) (owns_apart h.rowN h.rowL (by decide) hk)
  have hc1 : o + 1 < c.size := (Array.getElem?_eq_some_iff.1 h.h1).1
  have hc3 : o + 3 < c.size := (Array.getElem?_eq_some_iff.1 h.h3).1
  have e3 : c.setIfInBounds (o + 1) nd = c := by
    apply Array.ext_getElem?
    intro j
    rw [Array.getElem?_setIfInBounds]
    by_cases hj : o + 1 = j
    · subst hj
      rw [if_pos rfl, if_pos hc1, h.h1]
    · rw [if_neg hj]
  rw [e3]
  refine ⟨by simp [World.cell?, hblk, h.h3], by simp [World.frozen?, hblk], ((Keeps.refl A w).grown hg h.alt (fun k hk => (h.av k hk).2.2.2)).setCell h.nA _, ?_⟩
  refine ⟨?_, ?_, ?_, ?_, ?_, ?_, ?_, fun k hk => ⟨by have := (h.av k hk).1; have := hg.size; simp [World.setCell]; omega, (h.av k hk).2.1, (h.av k hk).2.2.1, hA k hk⟩⟩
  · simp [World.setCell, Array.getElem?_modify, hblk]
  · rw [Array.getElem?_setIfInBounds, if_neg (by omega), h.h0]
  · rw [Array.getElem?_setIfInBounds, if_neg (by omega), h.h1]
  · rw [Array.getElem?_setIfInBounds, if_neg (by omega), h.h2]
  · rw [Array.getElem?_setIfInBounds, if_pos rfl, if_pos hc3]
  · exact owns_of_block hrn fun k hk => Below.heap_setCell _ _ _ _ (fun e => h.bN (by have e2 : k = b := e; rw [← e2]; exact hk.symm))
  · exact owns_of_block hr fun k hk => Below.heap_setCell _ _ _ _ (fun e => hb (by have e2 : k = b := e; rw [← e2]; exact hk.symm))

theorem step_append_chg {ops : Array Oper} {op : Oper} {a : Act} {w : World} {K : Act → World → Prop} {Q : Exit → Act → World → Prop} {E : Prop} (hgd : op.guard = none) (s x : Operand)
    (ho : op.op = .call { callee := .builtin .append, args := #[s, x], argTypes := #[68, 68] })
    (v : Value) (lg : List Chg) (hs : a.eval s = v) (hown : w.ownsRow 0 118 5 v lg.length (flat5 lg))
    (ad : Addr) (d : Chg) (hx : a.eval x = .slice (some ad) 1 1) (hsrc : ∀ j u, d.cs[j]? = some u → w.cell? (ad.add j) = some u) (hb : lg.length + 1 ≤ 1099511627776)
    (h : ∀ x' z' w', w'.ownsRow 0 118 5 (.slice x' (lg.length + 1) z') (lg ++ [d]).length (flat5 (lg ++ [d])) → w.grownBy w' v.ownBlock → ((Value.slice x' (lg.length + 1) z').ownBlock = v.ownBlock ∨ (Value.slice x' (lg.length + 1) z').ownBlock = some w.heap.size) → K (a.put op.dst (.slice x' (lg.length + 1) z')) w') :
    if Region.wanted op (yielded ops a.tmps) = true then Oper.wp Try.prog op a w K Q else E := by
  have hw : Region.wanted op (yielded ops a.tmps) = true := by simp [Region.wanted, hgd]
  rw [if_pos hw]
  obtain ⟨i0, hi, hii⟩ := Option.map_eq_some_iff.1 info118
  simp only [Prod.mk.injEq] at hii
  obtain ⟨v', w', hr, h2, h3, h4, h5⟩ := run_append_own_at (P := Try.prog) w 0 68 op.type 118 i0 _ 5 32 Try.underlying68 hi hii.1 hii.2.1 hii.2.2 rfl (by decide) v lg.length (flat5 lg) hown ad 1 1 d.cs (by simp [Chg.cs]) hsrc (by simp [Chg.cs, Value.oneCell']) (by unfold maxLen; omega) (by omega) (Nat.zero_le _)
  unfold Oper.wp execOp
  simp only [ho, resolve, invoke, builtin, Sem.run_bind, Sem.run_pure, Result.andThen_ok, List.map_toArray, List.map_cons, List.map_nil, hs, hx, hr]
  obtain ⟨x', z', rfl⟩ := owns_shape h2
  exact h x' z' w' (by simpa [flat5] using h2) h3 h5

theorem EnvAt.endR {A : Nat → Prop} {w w' : World} {b o : Nat} {c : Array Value} {xv nd lgv : Value} {undo : Bool} {nds : List Nd} {lg : List Chg} (h : EnvAt A w b o c xv nd lgv undo nds lg) (hb : Below w.heap.size w w') : Keeps A w w' ∧ ∃ lgv', EnvAt A w' b o ((c.setIfInBounds (o + 1) nd).setIfInBounds (o + 3) lgv') xv nd lgv' undo nds lg := by
  have hc1 : o + 1 < c.size := (Array.getElem?_eq_some_iff.1 h.h1).1
  have hc3 : o + 3 < c.size := (Array.getElem?_eq_some_iff.1 h.h3).1
  have e1 : c.setIfInBounds (o + 1) nd = c := by
    apply Array.ext_getElem?
    intro j
    rw [Array.getElem?_setIfInBounds]
    by_cases hj : o + 1 = j
    · subst hj
      rw [if_pos rfl, if_pos hc1, h.h1]
    · rw [if_neg hj]
  have e3 : c.setIfInBounds (o + 3) lgv = c := by
    apply Array.ext_getElem?
    intro j
    rw [Array.getElem?_setIfInBounds]
    by_cases hj : o + 3 = j
    · subst hj
      rw [if_pos rfl, if_pos hc3, h.h3]
    · rw [if_neg hj]
  refine ⟨(Keeps.refl A w).below hb h.alt, lgv, ?_⟩
  rw [e1, e3]
  exact h.later hb
theorem EnvAt.end0 {A : Nat → Prop} {w w' : World} {b o : Nat} {c : Array Value} {xv nd lgv : Value} {undo : Bool} {nds : List Nd} {lg : List Chg} (h : EnvAt A w b o c xv nd lgv undo nds lg) (hb : Below w.heap.size w w') : EnvEnd A b o c xv undo nds lg w w' := by
  obtain ⟨h1, lgv', h2⟩ := h.endR hb
  exact ⟨h1, nd, lgv', h2⟩

/-- Two layings of the slices in a row are the last. -/
theorem setC_setC (c : Array Value) (o : Nat) (n l n' l' : Value) : ((((c.setIfInBounds (o + 1) n).setIfInBounds (o + 3) l).setIfInBounds (o + 1) n').setIfInBounds (o + 3) l') = (c.setIfInBounds (o + 1) n').setIfInBounds (o + 3) l' := by
  apply Array.ext_getElem?
  intro j
  simp only [Array.getElem?_setIfInBounds, Array.size_setIfInBounds]
  by_cases h1 : o + 3 = j
  · simp [h1]
  · by_cases h2 : o + 1 = j
    · simp [h1, h2]
    · simp [h1, h2]

def VoidEnd (A : Nat → Prop) (b o : Nat) (c : Array Value) (xv : Value) (undo : Bool) (nds : List Nd) (lg : List Chg) (w : World) (e : Ending) (w' : World) : Prop :=
  e = .returned (.tuple #[]) ∧ EnvEnd A b o c xv undo nds lg w w'

def RecEnd (A : Nat → Prop) (b o : Nat) (c : Array Value) (xv nd : Value) (undo : Bool) (nds : List Nd) (lg : List Chg) (w : World) (e : Ending) (w' : World) : Prop :=
  e = .returned (.tuple #[]) ∧ Keeps A w w' ∧ ∃ lgv, EnvAt A w' b o ((c.setIfInBounds (o + 1) nd).setIfInBounds (o + 3) lgv) xv nd lgv undo nds lg

set_option maxRecDepth 100000 in
set_option maxHeartbeats 4000000 in
theorem record_any (A : Nat → Prop) (b o : Nat) (c : Array Value) (xv nd lgv : Value) (undo : Bool) (nds : List Nd) (lg : List Chg) (d : Chg) (w : World)
    (h : EnvAt A w b o c xv nd lgv undo nds lg) (hn : lg.length + 1 ≤ 1099511627776) :
    Calls Try.prog 65 #[.pointer (some ⟨b, o, none⟩), .agg #[.int .i64 d.node, .int .i64 d.a, .int .i64 d.b, .bool d.child, .bool d.left]] w (RecEnd A b o c xv nd undo nds (if undo = true then lg ++ [d] else lg) w) := by
  obtain ⟨nx, nz, rfl⟩ := owns_shape h.rowL
  have e2 := h.cellU
  have e3 := h.cellL
  have hlt := h.lt
  have H := hid h
  clear h
  cases undo
  · go_enter Try.func65, Try.ntmps65
    go_wp2
    go_returns
    refine ⟨rfl, ?_⟩
    exact EnvAt.endR H.out ((Below.refl _ _).alloc (Nat.le_refl _) _)
  · go_enter Try.func65, Try.ntmps65
    go_wp2_with fail
    have HB : Hid (Below w.heap.size w ((w.alloc (.cells #[.int .i64 d.node, .int .i64 d.a, .int .i64 d.b, .bool d.child, .bool d.left] 118)).alloc (.cells #[.int .i64 d.node, .int .i64 d.a, .int .i64 d.b, .bool d.child, .bool d.left] 118)).drew) := (((Below.refl _ _).alloc (Nat.le_refl _) _).alloc (by simp) _).drew
    have HC : Hid (∀ j u, (Chg.cs d)[j]? = some u → ((w.alloc (.cells #[.int .i64 d.node, .int .i64 d.a, .int .i64 d.b, .bool d.child, .bool d.left] 118)).alloc (.cells #[.int .i64 d.node, .int .i64 d.a, .int .i64 d.b, .bool d.child, .bool d.left] 118)).drew.cell? ((⟨w.heap.size + 1, 0, none⟩ : Addr).add j) = some u) := by
      intro j u hu
      have h1 := new_cells (w.alloc (.cells #[.int .i64 d.node, .int .i64 d.a, .int .i64 d.b, .bool d.child, .bool d.left] 118)) (Chg.cs d) 118 j u hu
      rw [World.size_alloc] at h1
      exact h1
    go_region_law (first
      | (refine step_append_chg rfl _ _ rfl _ lg rfl (owns_later H.out.rowL HB.out) _ d rfl HC.out hn ?_; intro x' z' w' hown' hgr' hat'; obtain ⟨q1, q2, q3, q4⟩ := EnvAt.setL (EnvAt.later H.out HB.out) hgr' hown' hat'; have Q3 := hid q3; have Q4 := hid q4; clear q3 q4))
    all_goals go_wp2
    all_goals
      go_returns
      refine ⟨rfl, ?_⟩
      exact ⟨((Keeps.refl A w).below HB.out (EnvAt.alt H.out)).trans Q3.out, _, Q4.out⟩

def MarkEnd (nds : List Nd) (lg : List Chg) (w : World) (e : Ending) (w' : World) : Prop :=
  e = .returned (.agg #[.int .i64 (lg.length : Int), .int .i64 (nds.length : Int)]) ∧ Below w.heap.size w w'

set_option maxRecDepth 100000 in
set_option maxHeartbeats 4000000 in
theorem mark_any (A : Nat → Prop) (b o : Nat) (c : Array Value) (xv nd lgv : Value) (undo : Bool) (nds : List Nd) (lg : List Chg) (w : World)
    (h : EnvAt A w b o c xv nd lgv undo nds lg) : Calls Try.prog 50 #[.pointer (some ⟨b, o, none⟩)] w (MarkEnd nds lg w) := by
  obtain ⟨nx, nz, rfl⟩ := owns_shape h.rowN
  obtain ⟨lx, lz, rfl⟩ := owns_shape h.rowL
  have e1 := h.cellN
  have e3 := h.cellL
  have hlt := h.lt
  clear h
  go_enter Try.func50, Try.ntmps50
  go_wp2_with fail
  go_region
  all_goals go_wp2
  all_goals
    go_returns
    exact ⟨rfl, ((Below.refl _ _).alloc (Nat.le_refl _) _).drew⟩

theorem ownBlock_len (x : Option Addr) (n m z y : Nat) : (Value.slice x n z).ownBlock = (Value.slice x m y).ownBlock := by cases x <;> rfl

/-- A row cut to no element. -/
theorem owns_cut {w : World} {base : Nat} {e : TypeId} {s : Nat} {x : Option Addr} {n z : Nat} {xs : List Value} (h : w.ownsRow base e s (.slice x n z) n xs) (m : Nat) (hm : m ≤ n) : w.ownsRow base e s (.slice x m z) m (xs.take (m * s)) := by
  refine ⟨by rw [List.length_take, h.1]; exact Nat.min_eq_left (Nat.mul_le_mul_right _ hm), ?_⟩
  rcases h.2 with ⟨h1, h2⟩ | ⟨g, cap, cur, h1, h2, h3, h4, h5, h6, h7⟩
  · injection h1 with a1 a2 a3
    subst a1 a2 a3
    obtain rfl : m = 0 := by omega
    exact .inl ⟨rfl, rfl⟩
  · injection h1 with a1 a2 a3
    subst a1 a3
    refine .inr ⟨g, z, cur, rfl, h2, h3, by omega, h5, h6, ?_⟩
    rw [← h7, List.take_take, Nat.min_eq_left (Nat.mul_le_mul_right _ hm)]

theorem EnvAt.resetEnd {A : Nat → Prop} {w : World} {b o : Nat} {c : Array Value} {xv : Value} {nx : Option Addr} {nz : Nat} {lx : Option Addr} {lz : Nat} {undo : Bool} {nds : List Nd} {lg : List Chg} {x2 : Option Addr} {n2 z2 : Nat}
    (h : EnvAt A w b o c xv (.slice nx nds.length nz) (.slice lx lg.length lz) undo nds lg) :
    EnvEnd A b o (c.setIfInBounds o (.slice x2 n2 z2)) (.slice x2 n2 z2) undo [] [] w (((w.setCell ⟨b, o, none⟩ (.slice x2 n2 z2)).setCell ⟨b, o + 1, none⟩ (.slice nx 0 nz)).setCell ⟨b, o + 3, none⟩ (.slice lx 0 lz)).drew := by
  have hc1 : o + 1 < c.size := (Array.getElem?_eq_some_iff.1 h.h1).1
  have hc3 : o + 3 < c.size := (Array.getElem?_eq_some_iff.1 h.h3).1
  have kb : ∀ k, k ≠ b → (((w.setCell ⟨b, o, none⟩ (.slice x2 n2 z2)).setCell ⟨b, o + 1, none⟩ (.slice nx 0 nz)).setCell ⟨b, o + 3, none⟩ (.slice lx 0 lz)).drew.heap[k]? = w.heap[k]? := fun k hk =>
    (Below.heap_setCell _ _ _ _ hk).trans ((Below.heap_setCell _ _ _ _ hk).trans (Below.heap_setCell _ _ _ _ hk))
  refine ⟨(((Keeps.refl A w).setCell h.nA _).setCell h.nA _).setCell h.nA _ |>.drew, .slice nx 0 nz, .slice lx 0 lz, ?_⟩
  refine ⟨?_, ?_, ?_, ?_, ?_, ?_, ?_, fun k hk => ⟨by simpa [World.setCell, World.drew] using (h.av k hk).1, (h.av k hk).2.1, by rw [ownBlock_len nx 0 nds.length nz nz]; exact (h.av k hk).2.2.1, by rw [ownBlock_len lx 0 lg.length lz lz]; exact (h.av k hk).2.2.2⟩⟩
  · simp [World.setCell, World.drew, Array.getElem?_modify, h.blk]
  · rw [Array.getElem?_setIfInBounds, if_neg (by omega), Array.getElem?_setIfInBounds, if_neg (by omega), Array.getElem?_setIfInBounds, if_pos rfl, if_pos (by omega)]
  · rw [Array.getElem?_setIfInBounds, if_neg (by omega), Array.getElem?_setIfInBounds, if_pos rfl, if_pos (by simpa using hc1)]
  · rw [Array.getElem?_setIfInBounds, if_neg (by omega), Array.getElem?_setIfInBounds, if_neg (by omega), Array.getElem?_setIfInBounds, if_neg (by omega), h.h2]
  · rw [Array.getElem?_setIfInBounds, if_pos rfl, if_pos (by simpa using hc3)]
  · have h1 := owns_cut h.rowN 0 (Nat.zero_le _)
    simp only [Nat.zero_mul, List.take_zero] at h1
    exact owns_of_block h1 fun k hk => kb k (fun e => h.bN (by rw [← e, ownBlock_len nx nds.length 0 nz nz]; exact hk.symm))
  · have h1 := owns_cut h.rowL 0 (Nat.zero_le _)
    simp only [Nat.zero_mul, List.take_zero] at h1
    exact owns_of_block h1 fun k hk => kb k (fun e => h.bL (by rw [← e, ownBlock_len lx lg.length 0 lz lz]; exact hk.symm))

set_option maxRecDepth 100000 in
set_option maxHeartbeats 8000000 in
theorem reset_any (A : Nat → Prop) (b o : Nat) (c : Array Value) (xv nd lgv : Value) (undo : Bool) (nds : List Nd) (lg : List Chg) (x2 : Option Addr) (n2 z2 : Nat) (w : World)
    (h : EnvAt A w b o c xv nd lgv undo nds lg) : Calls Try.prog 44 #[.pointer (some ⟨b, o, none⟩), .slice x2 n2 z2] w (VoidEnd A b o (c.setIfInBounds o (.slice x2 n2 z2)) (.slice x2 n2 z2) undo [] [] w) := by
  obtain ⟨nx, nz, rfl⟩ := owns_shape h.rowN
  obtain ⟨lx, lz, rfl⟩ := owns_shape h.rowL
  have e0 := h.cellX
  have e1 := h.cellN
  have e3 := h.cellL
  have f0 := h.frz o
  have f1 := h.frz (o + 1)
  have f3 := h.frz (o + 3)
  have hlt := h.lt
  have H := hid h
  clear h
  go_enter Try.func44, Try.ntmps44
  go_wp2_with fail
  go_region
  all_goals go_wp2
  all_goals
    go_returns
    refine ⟨rfl, ?_⟩
    exact EnvAt.resetEnd H.out

end Go.Proofs.Qxb6614303a

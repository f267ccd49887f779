/-
  Seat b6614303a. The envelopes' operations on the partition; the state of nextRow's loops.
-/
import Derived.Test.Qxb6614303aTwo
import Derived.Test.Qxb6614303aLaws3
namespace Go.Proofs.Qxb6614303a
open Go.RowKit
set_option linter.unusedVariables false

/-- What an operation on one envelope leaves. -/
def POut (A : Nat → Prop) (b : Nat) (v0 v1 v2 v3 : Value) (x1 : Value) (nds1 : List Nd) (x2 : Value) (nds2 : List Nd) (lg2 : List Chg) (r : Value) (w : World) (e : Ending) (w' : World) : Prop :=
  e = .returned r ∧ Hid (P2 A w' b v0 v1 v2 v3 x1 nds1 x2 nds2 lg2) ∧ Hid (Keeps (fun k => A k ∨ Oth w k) w w')

section
variable {A : Nat → Prop} {w : World} {b : Nat} {v0 v1 v2 v3 x1 : Value} {nds1 : List Nd} {x2 : Value} {nds2 : List Nd} {lg2 : List Chg}
theorem reset1_p2 (h : P2 A w b v0 v1 v2 v3 x1 nds1 x2 nds2 lg2) (x' : Option Addr) (n' z' : Nat) : Calls Try.prog 44 #[.pointer (some ⟨b, 4, none⟩), .slice x' n' z'] w (POut A b v0 v1 v2 v3 (.slice x' n' z') [] x2 nds2 lg2 (.tuple #[]) w) := by
  obtain ⟨A1, c, nd, lgv, he, hA, -, hc⟩ := h.env1
  refine (reset_any A1 b 4 c x1 nd lgv false nds1 [] x' n' z' w he).mono ?_
  rintro e w' ⟨rfl, hend⟩
  exact ⟨rfl, hc w' _ _ hend⟩
theorem reset2_p2 (h : P2 A w b v0 v1 v2 v3 x1 nds1 x2 nds2 lg2) (x' : Option Addr) (n' z' : Nat) : Calls Try.prog 44 #[.pointer (some ⟨b, 8, none⟩), .slice x' n' z'] w (POut A b v0 v1 v2 v3 x1 nds1 (.slice x' n' z') [] [] (.tuple #[]) w) := by
  obtain ⟨A1, c, nd, lgv, he, hA, -, hc⟩ := h.env2
  refine (reset_any A1 b 8 c x2 nd lgv true nds2 lg2 x' n' z' w he).mono ?_
  rintro e w' ⟨rfl, hend⟩
  exact ⟨rfl, hc w' _ _ _ hend⟩
theorem empty2_p2 (h : P2 A w b v0 v1 v2 v3 x1 nds1 x2 nds2 lg2) (hn : nds2.length + 1 ≤ 1099511627776) : Calls Try.prog 45 #[.pointer (some ⟨b, 8, none⟩)] w (POut A b v0 v1 v2 v3 x1 nds1 x2 (nds2 ++ [⟨Mx, 0, -1, -1⟩]) lg2 (.int .i64 (nds2.length : Int)) w) := by
  obtain ⟨A1, c, nd, lgv, he, hA, hc, -⟩ := h.env2
  refine (emptyTree_any A1 b 8 c x2 nd lgv true nds2 lg2 w he hn).mono ?_
  rintro e w' ⟨rfl, hend⟩
  exact ⟨rfl, hc w' _ _ hend⟩
theorem tree1_p2 (h : P2 A w b v0 v1 v2 v3 x1 nds1 x2 nds2 lg2) (la lb : Int) (hn : nds1.length + 1 ≤ 1099511627776) : Calls Try.prog 46 #[.pointer (some ⟨b, 4, none⟩), .agg #[.int .i64 la, .int .i64 lb]] w (POut A b v0 v1 v2 v3 x1 (nds1 ++ [⟨la, lb, -1, -1⟩]) x2 nds2 lg2 (.int .i64 (nds1.length : Int)) w) := by
  obtain ⟨A1, c, nd, lgv, he, hA, hc, -⟩ := h.env1
  refine (tree_any A1 b 4 c x1 nd lgv false nds1 [] la lb w he hn).mono ?_
  rintro e w' ⟨rfl, hend⟩
  exact ⟨rfl, hc w' _ hend⟩
theorem mark2_p2 (h : P2 A w b v0 v1 v2 v3 x1 nds1 x2 nds2 lg2) : Calls Try.prog 50 #[.pointer (some ⟨b, 8, none⟩)] w (MarkEnd nds2 lg2 w) := by
  obtain ⟨A1, c, nd, lgv, he, hA, hc, -⟩ := h.env2
  exact mark_any A1 b 8 c x2 nd lgv true nds2 lg2 w he
theorem roll2_p2 (h : P2 A w b v0 v1 v2 v3 x1 nds1 x2 nds2 lg2) (k m : Nat) (hk : k ≤ lg2.length) (hm : m ≤ nds2.length) (hlg : lg2.length ≤ 1099511627776) (hnn : nds2.length ≤ 1099511627776) (hch : ∀ j, k ≤ j → j < lg2.length → 0 ≤ (lg2.getD j ⟨0, 0, 0, false, false⟩).node ∧ (lg2.getD j ⟨0, 0, 0, false, false⟩).node < nds2.length) :
    Calls Try.prog 47 #[.pointer (some ⟨b, 8, none⟩), .agg #[.int .i64 k, .int .i64 m]] w (POut A b v0 v1 v2 v3 x1 nds1 x2 ((undoTo k lg2.length nds2 lg2).take m) (lg2.take k) (.tuple #[]) w) := by
  obtain ⟨A1, c, nd, lgv, he, hA, hc, -⟩ := h.env2
  refine (roll_any A1 b 8 c x2 nd lgv true nds2 lg2 k m w he hk hm hlg hnn hch).mono ?_
  rintro e w' ⟨rfl, hend⟩
  exact ⟨rfl, hc w' _ _ hend⟩
theorem insert2_p2 {xa xo xn xz : Nat} {xs : Nat → Int} (h : P2 A w b v0 v1 v2 v3 x1 nds1 (.slice (some ⟨xa, xo, none⟩) xn xz) nds2 lg2) (hx : Xs w xa xo xn xs) (hxA : A xa) (hs : Safe nds2) (i0 : Nat) (hi : i0 < nds2.length) (lo0 hi0 : Nat) (hlo : lo0 ≤ hi0) (hhi : hi0 < xn) (hxn : xn ≤ 1099511627776) (a0 b0 : Int) (f0 : Nat) (hf : hi0 - lo0 < f0) (hnn : nds2.length + f0 ≤ 1099511627776) (hln : lg2.length + 2 * f0 ≤ 1099511627776) :
    Calls Try.prog 51 #[.pointer (some ⟨b, 8, none⟩), .int .i64 i0, .int .i64 lo0, .int .i64 hi0, .agg #[.int .i64 a0, .int .i64 b0]] w (POut A b v0 v1 v2 v3 x1 nds1 (.slice (some ⟨xa, xo, none⟩) xn xz) (ins xs true f0 nds2 lg2 i0 lo0 hi0 a0 b0).1 (ins xs true f0 nds2 lg2 i0 lo0 hi0 a0 b0).2 (.tuple #[]) w) := by
  obtain ⟨A1, c, nd, lgv, he, hA, hc, -⟩ := h.env2
  refine (insert_any A1 b 8 c xa xo xn xz xs nd lgv true nds2 lg2 i0 lo0 hi0 a0 b0 f0 w he hx (hA _ (.inl hxA)) hs hi hlo hhi hxn hf hnn hln).mono ?_
  rintro e w' ⟨rfl, hend⟩
  exact ⟨rfl, hc w' _ _ hend⟩
theorem least2_p2 {xa xo xn xz : Nat} {xs : Nat → Int} (h : P2 A w b v0 v1 v2 v3 x1 nds1 (.slice (some ⟨xa, xo, none⟩) xn xz) nds2 lg2) (hx : Xs w xa xo xn xs) (t : T) (hr : Rep nds2 t 0 (xn - 1)) (p : Nat) (hp : p < xn) (hxn : xn ≤ 1099511627776) (hnn : nds2.length ≤ 1099511627776) :
    Calls Try.prog 49 #[.pointer (some ⟨b, 8, none⟩), .int .i64 t.root, .int .i64 p] w (LeastEnd (lst xs t 0 (xn - 1) p 9223372036854775807) w) := by
  obtain ⟨A1, c, nd, lgv, he, hA, hc, -⟩ := h.env2
  exact least_any A1 b 8 c xa xo xn xz xs nd lgv true nds2 lg2 t p w he hx hr hp hxn hnn
theorem least1_p2 {xa xo xn xz : Nat} {xs : Nat → Int} (h : P2 A w b v0 v1 v2 v3 (.slice (some ⟨xa, xo, none⟩) xn xz) nds1 x2 nds2 lg2) (hx : Xs w xa xo xn xs) (t : T) (hr : Rep nds1 t 0 (xn - 1)) (p : Nat) (hp : p < xn) (hxn : xn ≤ 1099511627776) (hnn : nds1.length ≤ 1099511627776) :
    Calls Try.prog 49 #[.pointer (some ⟨b, 4, none⟩), .int .i64 t.root, .int .i64 p] w (LeastEnd (lst xs t 0 (xn - 1) p 9223372036854775807) w) := by
  obtain ⟨A1, c, nd, lgv, he, hA, hc, -⟩ := h.env1
  exact least_any A1 b 4 c xa xo xn xz xs nd lgv false nds1 [] t p w he hx hr hp hxn hnn
def MOut (A : Nat → Prop) (b : Nat) (v0 v1 v2 v3 : Value) (x1 : Value) (xs : Nat → Int) (xn : Nat) (ta tb : T) (nds1 : List Nd) (x2 : Value) (nds2 : List Nd) (lg2 : List Chg) (w : World) (e : Ending) (w' : World) : Prop :=
  ∃ (t' : T) (nds' : List Nd), POut A b v0 v1 v2 v3 x1 nds' x2 nds2 lg2 (.int .i64 t'.root) w e w' ∧ Hid (MrgT xs xn ta tb nds1 nds' 0 (xn - 1) t')
theorem merge1_p2 {xa xo xn xz : Nat} {xs : Nat → Int} (h : P2 A w b v0 v1 v2 v3 (.slice (some ⟨xa, xo, none⟩) xn xz) nds1 x2 nds2 lg2) (hx : Xs w xa xo xn xs) (hup : Up xs xn) (hxA : A xa) (hxn : xn ≤ 1048576) (hx0 : 0 < xn) (ta tb : T) (hs : Safe nds1) (hra : Rep nds1 ta 0 (xn - 1)) (hrb : Rep nds1 tb 0 (xn - 1)) (hnd : (ta.ids ++ tb.ids).Nodup) (hga : ta.all (Good xs xn)) (hgb : tb.all (Good xs xn)) (hnn : nds1.length + tb.size + xn ≤ 1099511627776) :
    Calls Try.prog 48 #[.pointer (some ⟨b, 4, none⟩), .int .i64 ta.root, .int .i64 tb.root, .int .i64 (0 : Nat), .int .i64 ((xn - 1 : Nat) : Int)] w (MOut A b v0 v1 v2 v3 (.slice (some ⟨xa, xo, none⟩) xn xz) xs xn ta tb nds1 x2 nds2 lg2 w) := by
  obtain ⟨A1, c, nd, lgv, he, hA, hc, -⟩ := h.env1
  refine (merge_any A1 b 4 xa xo xn xz xs [] hup (hA _ (.inl hxA)) (by omega) (by simp; omega) tb ta 0 (xn - 1) c nd lgv nds1 w he hx hs hra hrb hnd hga hgb (by omega) (by omega) hnn).mono ?_
  rintro e w' ⟨t', nds', rfl, hend, hm⟩
  exact ⟨t', nds', ⟨rfl, hc w' _ hend⟩, hm⟩
end

/-- The state of nextRow's loops. -/
structure NW (A : Nat → Prop) (w0 : World) (b : Nat) (v0 v1 v2 v3 x1 x2 : Value) (g bn : Nat) (nds1 nds2 : List Nd) (lg2 : List Chg) (f : Nat → Int) (stv : Value) (L : List Bk) (wr : World) : Prop where
  keep : Keeps A w0 wr
  p2 : P2 A wr b v0 v1 v2 v3 x1 nds1 x2 nds2 lg2
  row : wr.rowIs g 2 bn (fun q => .int .i64 (f q))
  stack : wr.ownsRow w0.heap.size 98 4 stv L.length (flatB L)
  alt : ∀ k, A k → k < w0.heap.size
  ge : w0.heap.size ≤ g

section
variable {A : Nat → Prop} {w0 wr w' : World} {b : Nat} {v0 v1 v2 v3 x1 x2 x1' x2' : Value} {g bn : Nat} {nds1 nds2 nds1' nds2' : List Nd} {lg2 lg2' : List Chg} {f : Nat → Int} {stv : Value} {L : List Bk}
theorem rowIs_of_block {w w' : World} {g : Nat} {e : TypeId} {n : Nat} {f : Nat → Value} (h : w.rowIs g e n f) (hb : w'.heap[g]? = w.heap[g]?) : w'.rowIs g e n f := by
  obtain ⟨cur, h1, h2⟩ := h
  exact ⟨cur, hb.trans h1, h2⟩
theorem NW.out (h : NW A w0 b v0 v1 v2 v3 x1 x2 g bn nds1 nds2 lg2 f stv L wr) (hp : P2 A w' b v0 v1 v2 v3 x1' nds1' x2' nds2' lg2') (hk : Keeps (fun k => A k ∨ Oth wr k) wr w') : NW A w0 b v0 v1 v2 v3 x1' x2' g bn nds1' nds2' lg2' f stv L w' :=
  ⟨h.keep.trans (hk.narrow (fun k hk => .inl hk)), hp, rowIs_of_block h.row (hk.block g (.inr (oth_row h.row (by decide)))), owns_of_block h.stack (fun k hk1 => hk.block k (.inr (oth_own h.stack (by decide) k hk1))), h.alt, h.ge⟩
theorem NW.later (h : NW A w0 b v0 v1 v2 v3 x1 x2 g bn nds1 nds2 lg2 f stv L wr) (hb : Below wr.heap.size wr w') : NW A w0 b v0 v1 v2 v3 x1 x2 g bn nds1 nds2 lg2 f stv L w' := by
  refine ⟨h.keep.below hb h.alt, h.p2.later hb, rowIs_of_block h.row (hb.block g ?_), owns_later h.stack hb, h.alt, h.ge⟩
  obtain ⟨cur, h1, _⟩ := h.row
  exact (Array.getElem?_eq_some_iff.1 h1).1
theorem NW.drew (h : NW A w0 b v0 v1 v2 v3 x1 x2 g bn nds1 nds2 lg2 f stv L wr) : NW A w0 b v0 v1 v2 v3 x1 x2 g bn nds1 nds2 lg2 f stv L wr.drew := h.later (Below.refl _ _).drew
/-- A row that A names reads as it read. -/
theorem NW.xs (h : NW A w0 b v0 v1 v2 v3 x1 x2 g bn nds1 nds2 lg2 f stv L wr) {xa xo xn : Nat} {xs : Nat → Int} (hA : A xa) (hx : Xs w0 xa xo xn xs) : Xs wr xa xo xn xs := fun q hq => (h.keep.cell (a := ⟨xa, xo + q, none⟩) hA).trans (hx q hq)
theorem NW.pop {x : Option Addr} {n z : Nat} {d : Bk} (h : NW A w0 b v0 v1 v2 v3 x1 x2 g bn nds1 nds2 lg2 f (.slice x n z) (L ++ [d]) wr) (hn : n = L.length + 1) : NW A w0 b v0 v1 v2 v3 x1 x2 g bn nds1 nds2 lg2 f (.slice x L.length z) L wr :=
  ⟨h.keep, h.p2, h.row, owns_pop h.stack hn, h.alt, h.ge⟩
theorem NW.push {d : Bk} {stv' : Value} (h : NW A w0 b v0 v1 v2 v3 x1 x2 g bn nds1 nds2 lg2 f stv L wr) (ho : w'.ownsRow w0.heap.size 98 4 stv' (L ++ [d]).length (flatB (L ++ [d]))) (hg : wr.grownBy w' stv.ownBlock) : NW A w0 b v0 v1 v2 v3 x1 x2 g bn nds1 nds2 lg2 f stv' (L ++ [d]) w' := by
  have hge : ∀ k, stv.ownBlock = some k → w0.heap.size ≤ k := by
    intro k hk
    rcases h.stack.2 with ⟨rfl, _⟩ | ⟨q, cap, cur, rfl, hb, _⟩
    · simp [Value.ownBlock] at hk
    · have : q = k := by simpa [Value.ownBlock] using hk
      omega
  refine ⟨h.keep.grown hg h.alt (fun k hk e => ?_), h.p2.grown h.stack (by decide) hg, rowIs_of_block h.row ?_, ho, h.alt, h.ge⟩
  · have := hge k e.symm
    have := h.alt k hk
    omega
  · obtain ⟨cur, h1, _⟩ := h.row
    refine hg.block g (Array.getElem?_eq_some_iff.1 h1).1 (fun e => ?_)
    obtain ⟨c, hc⟩ := owns_tag h.stack e.symm
    rw [h1] at hc
    simp at hc
/-- The next row's cell is laid. -/
theorem NW.lay (h : NW A w0 b v0 v1 v2 v3 x1 x2 g bn nds1 nds2 lg2 f stv L wr) (j : Nat) (v : Int) (hj : j < bn) : NW A w0 b v0 v1 v2 v3 x1 x2 g bn nds1 nds2 lg2 (fun q => if q = j then v else f q) stv L (wr.setCell ⟨g, j, none⟩ (.int .i64 v)) := by
  refine ⟨h.keep.setCell (fun e => by have := h.alt g e; have := h.ge; omega) _, h.p2.setCell (oth_row h.row (by decide)) _, ?_, ?_, h.alt, h.ge⟩
  · exact (World.rowIs.set h.row j (.int .i64 v)).congr (fun q _ => by by_cases e : q = j <;> simp [e])
  · refine owns_of_block h.stack (fun k hk => Below.heap_setCell _ _ _ _ (fun e => ?_))
    have e2 : k = g := e
    subst e2
    obtain ⟨c, hc⟩ := owns_tag h.stack hk
    obtain ⟨cur, h1, _⟩ := h.row
    rw [h1] at hc
    simp at hc
end
end Go.Proofs.Qxb6614303a

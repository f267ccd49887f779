/-
  Seat b6614303a. The envelope in memory: its nodes, its log; what an operation on it keeps.
-/
import Derived.WalkKit
import Derived.Below
import Derived.Lib.SliceRun
import Derived.Deep.QuietTactic
import Derived.BigQuiet
import Derived.Deep.RegionHeld3
import Derived.Deep.OwnRows
import Derived.Maps.AppendAt
import Derived.RangeFuncRecord
import Derived.Deep.DeepMust
import Derived.Test.Qxb6614303aProg
namespace Go.Proofs.Qxb6614303a
open Go.RowKit
set_option linter.unusedVariables false

/-- A node: its line a + b x; its children, -1 for none. -/
structure Nd where
  a : Int
  b : Int
  l : Int
  r : Int
/-- A change in the log. -/
structure Chg where
  node : Int
  a : Int
  b : Int
  child : Bool
  left : Bool

def Nd.cs (d : Nd) : List Value := [.int .i64 d.a, .int .i64 d.b, .int .i64 d.l, .int .i64 d.r]
def Chg.cs (c : Chg) : List Value := [.int .i64 c.node, .int .i64 c.a, .int .i64 c.b, .bool c.child, .bool c.left]

theorem flat_get {α : Type} (f : α → List Value) (s : Nat) (hf : ∀ x, (f x).length = s) : ∀ (l : List α) (i j : Nat), j < s → (l.flatMap f)[i * s + j]? = (l[i]?).bind fun x => (f x)[j]?
  | [], i, j, hj => by simp
  | x :: l, 0, j, hj => by
    simp only [List.flatMap_cons, Nat.zero_mul, Nat.zero_add]
    rw [List.getElem?_append_left (by rw [hf]; exact hj)]
    simp
  | x :: l, i + 1, j, hj => by
    simp only [List.flatMap_cons]
    rw [List.getElem?_append_right (by rw [hf, Nat.add_mul]; omega), hf, show (i + 1) * s + j - s = i * s + j by rw [Nat.add_mul]; omega, flat_get f s hf l i j hj]
    simp
theorem flat_len {α : Type} (f : α → List Value) (s : Nat) (hf : ∀ x, (f x).length = s) : ∀ (l : List α), (l.flatMap f).length = l.length * s
  | [] => by simp
  | x :: l => by
    simp only [List.flatMap_cons, List.length_append, List.length_cons, hf, flat_len f s hf l, Nat.add_mul]
    omega
theorem flat_set {α : Type} (f : α → List Value) (s : Nat) (hf : ∀ x, (f x).length = s) : ∀ (l : List α) (i j : Nat) (x y : α) (u : Value), j < s → l[i]? = some x → f y = (f x).set j u → (l.flatMap f).set (i * s + j) u = (l.set i y).flatMap f
  | [], i, j, x, y, u, hj, hx, hy => by simp at hx
  | z :: l, 0, j, x, y, u, hj, hx, hy => by
    simp only [List.getElem?_cons_zero, Option.some.injEq] at hx
    subst hx
    simp only [List.flatMap_cons, Nat.zero_mul, Nat.zero_add, List.set_cons_zero, hy]
    rw [List.set_append_left _ _ (by rw [hf]; exact hj)]
  | z :: l, i + 1, j, x, y, u, hj, hx, hy => by
    simp only [List.getElem?_cons_succ] at hx
    simp only [List.flatMap_cons, List.set_cons_succ]
    rw [List.set_append_right _ _ (by rw [hf, Nat.add_mul]; omega), hf, show (i + 1) * s + j - s = i * s + j by rw [Nat.add_mul]; omega, flat_set f s hf l i j x y u hj hx hy]

def flat4 (nds : List Nd) : List Value := nds.flatMap Nd.cs
def flat5 (lg : List Chg) : List Value := lg.flatMap Chg.cs

/-- All that A names lies as it lay. -/
structure Keeps (A : Nat → Prop) (w w' : World) : Prop where
  os : w'.os = w.os
  tape : w'.tape = w.tape
  output : w'.output = w.output
  size : w.heap.size ≤ w'.heap.size
  block : ∀ k, A k → w'.heap[k]? = w.heap[k]?

namespace Keeps
variable {A : Nat → Prop} {w w' w'' : World}
theorem refl (A : Nat → Prop) (w : World) : Keeps A w w := ⟨rfl, rfl, rfl, Nat.le_refl _, fun _ _ => rfl⟩
theorem trans (h : Keeps A w w') (k : Keeps A w' w'') : Keeps A w w'' :=
  ⟨k.os.trans h.os, k.tape.trans h.tape, k.output.trans h.output, Nat.le_trans h.size k.size, fun i hi => (k.block i hi).trans (h.block i hi)⟩
theorem drew (h : Keeps A w w') : Keeps A w w'.drew := ⟨h.os, h.tape, h.output, h.size, h.block⟩
theorem below (h : Keeps A w w') (hb : Below w'.heap.size w' w'') (hA : ∀ k, A k → k < w.heap.size) : Keeps A w w'' :=
  h.trans ⟨hb.os, hb.tape, hb.output, hb.size, fun i hi => hb.block i (by have := hA i hi; have := h.size; omega)⟩
theorem alloc (h : Keeps A w w') (hA : ∀ k, A k → k < w.heap.size) (o : Obj) : Keeps A w (w'.alloc o) := h.below ((Below.refl _ _).alloc (Nat.le_refl _) _) hA
theorem setCell (h : Keeps A w w') {b p : Nat} (hb : ¬ A b) (v : Value) : Keeps A w (w'.setCell ⟨b, p, none⟩ v) :=
  h.trans ⟨rfl, rfl, rfl, by simp [World.setCell], fun k hk => Below.heap_setCell _ _ _ _ (fun e => hb (by have e2 : k = b := e; rw [← e2]; exact hk))⟩
theorem grown {row : Option Nat} (h : Keeps A w w') (hg : w'.grownBy w'' row) (hA : ∀ k, A k → k < w.heap.size) (hr : ∀ k, A k → some k ≠ row) : Keeps A w w'' :=
  h.trans ⟨hg.os, hg.tape, hg.output, hg.size, fun k hk => hg.block k (by have := hA k hk; have := h.size; omega) (hr k hk)⟩
theorem cell (h : Keeps A w w') {a : Addr} (ha : A a.block) : w'.cell? a = w.cell? a := World.cell?_of_block (w := w) (h.block _ ha)
end Keeps

/-- An envelope lies at offset o of the partition's block b; A names blocks that are not its own. -/
structure EnvAt (A : Nat → Prop) (w : World) (b o : Nat) (c : Array Value) (xv nd lgv : Value) (undo : Bool) (nds : List Nd) (lg : List Chg) : Prop where
  blk : w.heap[b]? = some (.cells c 72 (0, 0))
  h0 : c[o]? = some xv
  h1 : c[o + 1]? = some nd
  h2 : c[o + 2]? = some (.bool undo)
  h3 : c[o + 3]? = some lgv
  rowN : w.ownsRow 0 116 4 nd nds.length (flat4 nds)
  rowL : w.ownsRow 0 118 5 lgv lg.length (flat5 lg)
  av : ∀ k, A k → k < w.heap.size ∧ k ≠ b ∧ some k ≠ nd.ownBlock ∧ some k ≠ lgv.ownBlock

theorem info116 : (Try.prog.info? 116).map (fun i => (i.zero, i.size, i.bytes)) = some (some (.agg #[.int .i64 0, .int .i64 0, .int .i64 0, .int .i64 0]), 4, 32) := by kernel_rfl
theorem info118 : (Try.prog.info? 118).map (fun i => (i.zero, i.size, i.bytes)) = some (some (.agg #[.int .i64 0, .int .i64 0, .int .i64 0, .bool false, .bool false]), 5, 32) := by kernel_rfl
theorem info2 : (Try.prog.info? 2).map (fun i => (i.zero, i.size, i.bytes)) = some (some (.int .i64 0), 1, 8) := by kernel_rfl
theorem info3 : (Try.prog.info? 3).map (fun i => (i.zero, i.size, i.bytes)) = some (some (.int .i64 0), 1, 8) := by kernel_rfl
theorem info98 : (Try.prog.info? 98).map (fun i => (i.zero, i.size, i.bytes)) = some (some (.agg #[.int .i64 0, .int .i64 0, .int .i64 0, .int .i64 0]), 4, 32) := by kernel_rfl

theorem owns_shape {w : World} {base : Nat} {e : TypeId} {s : Nat} {v : Value} {n : Nat} {xs : List Value} (h : w.ownsRow base e s v n xs) : ∃ x z, v = .slice x n z := by
  rcases h.2 with ⟨rfl, rfl⟩ | ⟨g, cap, cur, rfl, _⟩
  · exact ⟨_, _, rfl⟩
  · exact ⟨_, _, rfl⟩
/-- The own block of a row bears the row's type. -/
theorem owns_tag {w : World} {base : Nat} {e : TypeId} {s : Nat} {v : Value} {n : Nat} {xs : List Value} (h : w.ownsRow base e s v n xs) {k : Nat} (hk : v.ownBlock = some k) : ∃ cur, w.heap[k]? = some (.cells cur e (0, 0)) := by
  rcases h.2 with ⟨rfl, rfl⟩ | ⟨g, cap, cur, rfl, _, hg, _⟩
  · simp [Value.ownBlock] at hk
  · have : g = k := by simpa [Value.ownBlock] using hk
    subst this
    exact ⟨_, hg⟩
theorem owns_lt {w : World} {base : Nat} {e : TypeId} {s : Nat} {v : Value} {n : Nat} {xs : List Value} (h : w.ownsRow base e s v n xs) {k : Nat} (hk : v.ownBlock = some k) : k < w.heap.size := by
  obtain ⟨c, hc⟩ := owns_tag h hk
  exact (Array.getElem?_eq_some_iff.1 hc).1
theorem owns_of_block {w w' : World} {base : Nat} {e : TypeId} {s : Nat} {v : Value} {n : Nat} {xs : List Value} (h : w.ownsRow base e s v n xs) (hb : ∀ k, v.ownBlock = some k → w'.heap[k]? = w.heap[k]?) : w'.ownsRow base e s v n xs := by
  refine ⟨h.1, ?_⟩
  rcases h.2 with h | ⟨g, cap, cur, rfl, h2, h3, h4⟩
  · exact .inl h
  · exact .inr ⟨g, cap, cur, rfl, h2, (hb g (by simp [Value.ownBlock])).trans h3, h4⟩
theorem owns_later {w w' : World} {base : Nat} {e : TypeId} {s : Nat} {v : Value} {n : Nat} {xs : List Value} (h : w.ownsRow base e s v n xs) (hb : Below w.heap.size w w') : w'.ownsRow base e s v n xs :=
  owns_of_block h fun k hk => hb.block k (owns_lt h hk)
/-- Rows of two types lie in two blocks. -/
theorem owns_apart {w : World} {base base' : Nat} {e e' : TypeId} {s s' : Nat} {v v' : Value} {n n' : Nat} {xs xs' : List Value} (h : w.ownsRow base e s v n xs) (h' : w.ownsRow base' e' s' v' n' xs') (hne : e ≠ e') {k : Nat} (hk : v.ownBlock = some k) : some k ≠ v'.ownBlock := by
  intro hk'
  obtain ⟨c, hc⟩ := owns_tag h hk
  obtain ⟨c', hc'⟩ := owns_tag h' hk'.symm
  rw [hc] at hc'
  simp only [Option.some.injEq, Obj.cells.injEq] at hc'
  exact hne hc'.2.1

namespace EnvAt
variable {A : Nat → Prop} {w w' : World} {b o : Nat} {c : Array Value} {xv nd lgv : Value} {undo : Bool} {nds : List Nd} {lg : List Chg}
theorem lt (h : EnvAt A w b o c xv nd lgv undo nds lg) : b < w.heap.size := (Array.getElem?_eq_some_iff.1 h.blk).1
theorem cellX (h : EnvAt A w b o c xv nd lgv undo nds lg) : w.cell? ⟨b, o, none⟩ = some xv := by simp [World.cell?, h.blk, h.h0]
theorem cellN (h : EnvAt A w b o c xv nd lgv undo nds lg) : w.cell? ⟨b, o + 1, none⟩ = some nd := by simp [World.cell?, h.blk, h.h1]
theorem cellU (h : EnvAt A w b o c xv nd lgv undo nds lg) : w.cell? ⟨b, o + 2, none⟩ = some (.bool undo) := by simp [World.cell?, h.blk, h.h2]
theorem cellL (h : EnvAt A w b o c xv nd lgv undo nds lg) : w.cell? ⟨b, o + 3, none⟩ = some lgv := by simp [World.cell?, h.blk, h.h3]
theorem frz (h : EnvAt A w b o c xv nd lgv undo nds lg) (j : Nat) : w.frozen? ⟨b, j, none⟩ = false := by simp [World.frozen?, h.blk]
theorem later (h : EnvAt A w b o c xv nd lgv undo nds lg) (hb : Below w.heap.size w w') : EnvAt A w' b o c xv nd lgv undo nds lg :=
  ⟨(hb.block b h.lt).trans h.blk, h.h0, h.h1, h.h2, h.h3, owns_later h.rowN hb, owns_later h.rowL hb, fun k hk => ⟨by have := (h.av k hk).1; have := hb.size; omega, (h.av k hk).2⟩⟩
theorem nA (h : EnvAt A w b o c xv nd lgv undo nds lg) : ¬ A b := fun e => (h.av b e).2.1 rfl
theorem alt (h : EnvAt A w b o c xv nd lgv undo nds lg) : ∀ k, A k → k < w.heap.size := fun k hk => (h.av k hk).1
theorem bN (h : EnvAt A w b o c xv nd lgv undo nds lg) : some b ≠ nd.ownBlock := by
  intro e
  obtain ⟨c', hc'⟩ := owns_tag h.rowN e.symm
  rw [h.blk] at hc'
  simp at hc'
theorem bL (h : EnvAt A w b o c xv nd lgv undo nds lg) : some b ≠ lgv.ownBlock := by
  intro e
  obtain ⟨c', hc'⟩ := owns_tag h.rowL e.symm
  rw [h.blk] at hc'
  simp at hc'
end EnvAt

/-- What an operation on an envelope leaves. -/
def EnvEnd (A : Nat → Prop) (b o : Nat) (c : Array Value) (xv : Value) (undo : Bool) (nds : List Nd) (lg : List Chg) (w w' : World) : Prop :=
  Keeps A w w' ∧ ∃ nd lgv, EnvAt A w' b o ((c.setIfInBounds (o + 1) nd).setIfInBounds (o + 3) lgv) xv nd lgv undo nds lg

end Go.Proofs.Qxb6614303a

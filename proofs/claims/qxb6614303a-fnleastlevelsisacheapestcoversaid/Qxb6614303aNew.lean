/-
  Seat b6614303a. newPartition (23): its loops.
-/
import Derived.Test.Qxb6614303aPart
import Derived.Test.Qxb6614303aShelf
import Derived.Great.BuildSlice
namespace Go.Proofs.Qxb6614303a
open Go.RowKit
set_option linter.unusedVariables false

/-- The runs of equal needs among the first k slots: their needs; where they begin. -/
def runs (zs : Nat → Int) : Nat → List Int × List Int
  | 0 => ([], [])
  | k + 1 => if k = 0 ∨ zs k ≠ zs (k - 1) then ((runs zs k).1 ++ [zs k], (runs zs k).2 ++ [(k : Int)]) else runs zs k

def ints (zs : List Int) : List Value := zs.map (Value.int .i64)

/-- The partition's block, while it is made: level, before, distinct, levelAt. -/
def PB (w : World) (b : Nat) (v0 v1 v2 v3 : Value) : Prop :=
  w.heap[b]? = some (.cells #[v0, v1, v2, v3, .slice none 0 0, .slice none 0 0, .bool false, .slice none 0 0, .slice none 0 0, .slice none 0 0, .bool true, .slice none 0 0] 72 (0, 0))
theorem PB.cells {w : World} {b : Nat} {v0 v1 v2 v3 : Value} (h : PB w b v0 v1 v2 v3) : w.cell? ⟨b, 0, none⟩ = some v0 ∧ w.cell? ⟨b, 1, none⟩ = some v1 ∧ w.cell? ⟨b, 2, none⟩ = some v2 ∧ w.cell? ⟨b, 3, none⟩ = some v3 ∧ (∀ j, w.frozen? ⟨b, j, none⟩ = false) ∧ b < w.heap.size := by
  have h' : w.heap[b]? = _ := h
  exact ⟨by simp [World.cell?, h'], by simp [World.cell?, h'], by simp [World.cell?, h'], by simp [World.cell?, h'], fun j => by simp [World.frozen?, h'], (Array.getElem?_eq_some_iff.1 h').1⟩
theorem PB.later {w w' : World} {b : Nat} {v0 v1 v2 v3 : Value} (h : PB w b v0 v1 v2 v3) (hb : Below w.heap.size w w') : PB w' b v0 v1 v2 v3 := (hb.block b (Array.getElem?_eq_some_iff.1 h).1).trans h
theorem PB.set0 {w : World} {b : Nat} {v0 v1 v2 v3 : Value} (h : PB w b v0 v1 v2 v3) (v : Value) : PB (w.setCell ⟨b, 0, none⟩ v) b v v1 v2 v3 := by
  have h' : w.heap[b]? = _ := h
  simp [PB, World.setCell, Array.getElem?_modify, h']
theorem PB.set1 {w : World} {b : Nat} {v0 v1 v2 v3 : Value} (h : PB w b v0 v1 v2 v3) (v : Value) : PB (w.setCell ⟨b, 1, none⟩ v) b v0 v v2 v3 := by
  have h' : w.heap[b]? = _ := h
  simp [PB, World.setCell, Array.getElem?_modify, h']
theorem PB.set2 {w : World} {b : Nat} {v0 v1 v2 v3 : Value} (h : PB w b v0 v1 v2 v3) (v : Value) : PB (w.setCell ⟨b, 2, none⟩ v) b v0 v1 v v3 := by
  have h' : w.heap[b]? = _ := h
  simp [PB, World.setCell, Array.getElem?_modify, h']
theorem PB.set3 {w : World} {b : Nat} {v0 v1 v2 v3 : Value} (h : PB w b v0 v1 v2 v3) (v : Value) : PB (w.setCell ⟨b, 3, none⟩ v) b v0 v1 v2 v := by
  have h' : w.heap[b]? = _ := h
  simp [PB, World.setCell, Array.getElem?_modify, h']

/-- Two own rows in two blocks. -/
def Apart (u v : Value) : Prop := ∀ k, u.ownBlock = some k → v.ownBlock ≠ some k

/-- One number is appended to an own row. -/
theorem wpList_app2 {ops : Array Oper} {rest : List Oper} {op : Oper} {a : Act} {X : World} {Q : Exit → Act → World → Prop} (hgd : op.guard = none) (s x : Operand)
    (ho : op.op = .call { callee := .builtin .append, args := #[s, x], argTypes := #[22, 22] }) (base : Nat) (v : Value) (zs : List Int) (y : Int) (t : TypeId) (hs : a.eval s = v) (hx : a.eval x = .slice (some ⟨X.heap.size, 0, none⟩) 1 1)
    (hown : X.ownsRow base 2 1 v zs.length (ints zs)) (hb : zs.length + 1 ≤ 1099511627776) (hbase : base ≤ X.heap.size)
    (h : ∀ x' z' w', Hid (w'.ownsRow base 2 1 (.slice x' (zs.length + 1) z') (zs ++ [y]).length (ints (zs ++ [y]))) → Hid (X.grownBy w' v.ownBlock) → Hid ((Value.slice x' (zs.length + 1) z').ownBlock = v.ownBlock ∨ ∃ k, (Value.slice x' (zs.length + 1) z').ownBlock = some k ∧ X.heap.size ≤ k) → wpList Try.prog ops Q rest (a.put op.dst (.slice x' (zs.length + 1) z')) w') :
    wpList Try.prog ops Q (op :: rest) a (X.alloc (.cells #[.int .i64 y] t)) := by
  have hown' : (X.alloc (.cells #[.int .i64 y] t)).ownsRow base 2 1 v zs.length (ints zs) := World.ownsRow.alloc hown _
  obtain ⟨i0, hi, hii⟩ := Option.map_eq_some_iff.1 info2
  simp only [Prod.mk.injEq] at hii
  refine wpList_append_own_at _ hgd s x 22 ho base 2 i0 _ 1 8 Try.underlying22 hi hii.1 hii.2.1 hii.2.2 rfl (by decide) v zs.length (ints zs) hs hown' ⟨X.heap.size, 0, none⟩ 1 1 [.int .i64 y] hx rfl (new_cells X [.int .i64 y] t) (by simp [Value.oneCell']) (by unfold maxLen; omega) (by omega) (by rw [World.size_alloc]; omega) ?_
  intro v' w' h2 h3 h4 h5
  obtain ⟨x', z', rfl⟩ := owns_shape h2
  refine h x' z' w' ?_ ?_ ?_
  · unfold ints at h2 ⊢
    rw [List.map_append, List.length_append]
    exact h2
  · exact ⟨h3.os, h3.tape, h3.output, by have := h3.size; rw [World.size_alloc] at this; omega, fun k hk hr => (h3.block k (by rw [World.size_alloc]; omega) hr).trans (Below.block ((Below.refl X.heap.size X).alloc (Nat.le_refl _) _) k hk)⟩
  · rcases h5 with e | e
    · exact .inl e
    · exact .inr ⟨_, e, by rw [World.size_alloc]; omega⟩

/-- The state of the first loop. -/
def New1 (w0 : World) (b : Nat) (zs : Nat → Int) (k : Nat) (wr : World) : Prop :=
  Below w0.heap.size w0 wr ∧ w0.heap.size ≤ b ∧ ∃ lv bf, PB wr b lv bf (.slice none 0 0) (.slice none 0 0) ∧ wr.ownsRow w0.heap.size 2 1 lv (runs zs k).1.length (ints (runs zs k).1) ∧ wr.ownsRow w0.heap.size 2 1 bf (runs zs k).2.length (ints (runs zs k).2) ∧ Apart lv bf

end Go.Proofs.Qxb6614303a

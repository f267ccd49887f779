/-
  Seat b6614303a. The partition in memory: its four rows, its two envelopes on one block; the stack of nextRow.
-/
import Derived.Test.Qxb6614303aMerge
import Derived.Test.Qxb6614303aNew2
import Derived.Test.Qxb6614303aStack
namespace Go.Proofs.Qxb6614303a
open Go.RowKit
set_option linter.unusedVariables false

/-- A block of another kind than the envelopes' own. -/
def Oth (w : World) (k : Nat) : Prop := ∃ cs t, w.heap[k]? = some (.cells cs t (0, 0)) ∧ t ≠ 72 ∧ t ≠ 116 ∧ t ≠ 118

theorem EnvAt.amb {A : Nat → Prop} {w : World} {b o : Nat} {c : Array Value} {xv nd lgv : Value} {undo : Bool} {nds : List Nd} {lg : List Chg} (h : EnvAt A w b o c xv nd lgv undo nds lg) : EnvAt (fun k => A k ∨ Oth w k) w b o c xv nd lgv undo nds lg := by
  refine ⟨h.blk, h.h0, h.h1, h.h2, h.h3, h.rowN, h.rowL, fun k hk => ?_⟩
  rcases hk with hk | ⟨cs, t, h1, h2, h3, h4⟩
  · exact h.av k hk
  · exact (h.widen h1 h2 h3 h4).av k (.inr rfl)

/-- The heads of the partition's block. -/
def Hd (c : Array Value) (v0 v1 v2 v3 : Value) : Prop := c[0]? = some v0 ∧ c[1]? = some v1 ∧ c[2]? = some v2 ∧ c[3]? = some v3

structure Two (A : Nat → Prop) (w : World) (b : Nat) (c : Array Value) (x1 nd1 lv1 : Value) (nds1 : List Nd) (x2 nd2 lv2 : Value) (nds2 : List Nd) (lg2 : List Chg) : Prop where
  e1 : EnvAt (fun k => A k ∨ some k = nd2.ownBlock ∨ some k = lv2.ownBlock) w b 4 c x1 nd1 lv1 false nds1 []
  e2 : EnvAt (fun k => A k ∨ some k = nd1.ownBlock ∨ some k = lv1.ownBlock) w b 8 c x2 nd2 lv2 true nds2 lg2

/-- The partition: heads v0 .. v3, the blocks' points x1 and nodes, the ends' points x2, nodes and log. -/
def P2 (A : Nat → Prop) (w : World) (b : Nat) (v0 v1 v2 v3 : Value) (x1 : Value) (nds1 : List Nd) (x2 : Value) (nds2 : List Nd) (lg2 : List Chg) : Prop :=
  ∃ c nd1 lv1 nd2 lv2, Two A w b c x1 nd1 lv1 nds1 x2 nd2 lv2 nds2 lg2 ∧ Hd c v0 v1 v2 v3

section
variable {A : Nat → Prop} {w w' : World} {b : Nat} {c c' : Array Value} {x1 nd1 lv1 x1' nd1' lv1' : Value} {nds1 nds1' : List Nd} {x2 nd2 lv2 x2' nd2' lv2' : Value} {nds2 nds2' : List Nd} {lg2 lg2' : List Chg} {v0 v1 v2 v3 : Value}

theorem Two.op1 (h : Two A w b c x1 nd1 lv1 nds1 x2 nd2 lv2 nds2 lg2) (hk : Keeps (fun k => A k ∨ some k = nd2.ownBlock ∨ some k = lv2.ownBlock) w w')
    (he : EnvAt (fun k => A k ∨ some k = nd2.ownBlock ∨ some k = lv2.ownBlock) w' b 4 c' x1' nd1' lv1' false nds1' []) (hc : ∀ j, 8 ≤ j → c'[j]? = c[j]?) : Two A w' b c' x1' nd1' lv1' nds1' x2 nd2 lv2 nds2 lg2 := by
  refine ⟨he, ⟨he.blk, ?_, ?_, ?_, ?_, owns_of_block h.e2.rowN (fun k hk1 => hk.block k (.inr (.inl hk1.symm))), owns_of_block h.e2.rowL (fun k hk1 => hk.block k (.inr (.inr hk1.symm))), fun k hk1 => ?_⟩⟩
  · rw [hc _ (by omega)]; exact h.e2.h0
  · rw [hc _ (by omega)]; exact h.e2.h1
  · rw [hc _ (by omega)]; exact h.e2.h2
  · rw [hc _ (by omega)]; exact h.e2.h3
  · rcases hk1 with hk1 | hk1 | hk1
    · have := h.e2.av k (.inl hk1)
      exact ⟨by have := hk.size; omega, this.2⟩
    · refine ⟨owns_lt he.rowN hk1.symm, fun e => he.bN (by rw [← e]; exact hk1), fun e => ?_, fun e => ?_⟩
      · exact (he.av k (.inr (.inl e))).2.2.1 hk1
      · exact (he.av k (.inr (.inr e))).2.2.1 hk1
    · refine ⟨owns_lt he.rowL hk1.symm, fun e => he.bL (by rw [← e]; exact hk1), fun e => ?_, fun e => ?_⟩
      · exact (he.av k (.inr (.inl e))).2.2.2 hk1
      · exact (he.av k (.inr (.inr e))).2.2.2 hk1

theorem Two.op2 (h : Two A w b c x1 nd1 lv1 nds1 x2 nd2 lv2 nds2 lg2) (hk : Keeps (fun k => A k ∨ some k = nd1.ownBlock ∨ some k = lv1.ownBlock) w w')
    (he : EnvAt (fun k => A k ∨ some k = nd1.ownBlock ∨ some k = lv1.ownBlock) w' b 8 c' x2' nd2' lv2' true nds2' lg2') (hc : ∀ j, j < 8 → c'[j]? = c[j]?) : Two A w' b c' x1 nd1 lv1 nds1 x2' nd2' lv2' nds2' lg2' := by
  refine ⟨⟨he.blk, ?_, ?_, ?_, ?_, owns_of_block h.e1.rowN (fun k hk1 => hk.block k (.inr (.inl hk1.symm))), owns_of_block h.e1.rowL (fun k hk1 => hk.block k (.inr (.inr hk1.symm))), fun k hk1 => ?_⟩, he⟩
  · rw [hc _ (by omega)]; exact h.e1.h0
  · rw [hc _ (by omega)]; exact h.e1.h1
  · rw [hc _ (by omega)]; exact h.e1.h2
  · rw [hc _ (by omega)]; exact h.e1.h3
  · rcases hk1 with hk1 | hk1 | hk1
    · have := h.e1.av k (.inl hk1)
      exact ⟨by have := hk.size; omega, this.2⟩
    · refine ⟨owns_lt he.rowN hk1.symm, fun e => he.bN (by rw [← e]; exact hk1), fun e => ?_, fun e => ?_⟩
      · exact (he.av k (.inr (.inl e))).2.2.1 hk1
      · exact (he.av k (.inr (.inr e))).2.2.1 hk1
    · refine ⟨owns_lt he.rowL hk1.symm, fun e => he.bL (by rw [← e]; exact hk1), fun e => ?_, fun e => ?_⟩
      · exact (he.av k (.inr (.inl e))).2.2.2 hk1
      · exact (he.av k (.inr (.inr e))).2.2.2 hk1

theorem Two.amb (h : Two A w b c x1 nd1 lv1 nds1 x2 nd2 lv2 nds2 lg2) : Two (fun k => A k ∨ Oth w k) w b c x1 nd1 lv1 nds1 x2 nd2 lv2 nds2 lg2 :=
  ⟨h.e1.amb.narrow (fun k hk => hk.elim (fun h => h.elim (fun h => .inl (.inl h)) .inr) (fun h => .inl (.inr h))), h.e2.amb.narrow (fun k hk => hk.elim (fun h => h.elim (fun h => .inl (.inl h)) .inr) (fun h => .inl (.inr h)))⟩
theorem Two.narrow {A' : Nat → Prop} (h : Two A w b c x1 nd1 lv1 nds1 x2 nd2 lv2 nds2 lg2) (hA : ∀ k, A' k → A k) : Two A' w b c x1 nd1 lv1 nds1 x2 nd2 lv2 nds2 lg2 :=
  ⟨h.e1.narrow (fun k hk => hk.imp (hA k) id), h.e2.narrow (fun k hk => hk.imp (hA k) id)⟩
theorem P2.narrow {A' : Nat → Prop} (h : P2 A w b v0 v1 v2 v3 x1 nds1 x2 nds2 lg2) (hA : ∀ k, A' k → A k) : P2 A' w b v0 v1 v2 v3 x1 nds1 x2 nds2 lg2 := by
  obtain ⟨c, nd1, lv1, nd2, lv2, h, hh⟩ := h
  exact ⟨c, nd1, lv1, nd2, lv2, h.narrow hA, hh⟩
theorem P2.amb (h : P2 A w b v0 v1 v2 v3 x1 nds1 x2 nds2 lg2) : P2 (fun k => A k ∨ Oth w k) w b v0 v1 v2 v3 x1 nds1 x2 nds2 lg2 := by
  obtain ⟨c, nd1, lv1, nd2, lv2, h, hh⟩ := h
  exact ⟨c, nd1, lv1, nd2, lv2, h.amb, hh⟩

theorem P2.later (h : P2 A w b v0 v1 v2 v3 x1 nds1 x2 nds2 lg2) (hb : Below w.heap.size w w') : P2 A w' b v0 v1 v2 v3 x1 nds1 x2 nds2 lg2 := by
  obtain ⟨c, nd1, lv1, nd2, lv2, h, hh⟩ := h
  exact ⟨c, nd1, lv1, nd2, lv2, ⟨h.e1.later hb, h.e2.later hb⟩, hh⟩
/-- The partition's cells. -/
theorem P2.cells (h : P2 A w b v0 v1 v2 v3 x1 nds1 x2 nds2 lg2) : w.cell? ⟨b, 0, none⟩ = some v0 ∧ w.cell? ⟨b, 1, none⟩ = some v1 ∧ w.cell? ⟨b, 2, none⟩ = some v2 ∧ w.cell? ⟨b, 3, none⟩ = some v3 ∧ b < w.heap.size ∧ ¬ A b ∧ ∀ k, A k → k < w.heap.size := by
  obtain ⟨c, nd1, lv1, nd2, lv2, h, h0, h1, h2, h3⟩ := h
  have hb := h.e1.blk
  exact ⟨by simp [World.cell?, hb, h0], by simp [World.cell?, hb, h1], by simp [World.cell?, hb, h2], by simp [World.cell?, hb, h3], h.e1.lt, fun e => h.e1.nA (.inl e), fun k hk => h.e1.alt k (.inl hk)⟩

/-- The blocks' envelope, opened: what an operation on it leaves is a partition again. -/
theorem P2.env1 (h : P2 A w b v0 v1 v2 v3 x1 nds1 x2 nds2 lg2) : ∃ A1 c nd lgv, EnvAt A1 w b 4 c x1 nd lgv false nds1 [] ∧ (∀ k, A k ∨ Oth w k → A1 k) ∧
    (∀ w' nds', EnvEnd A1 b 4 c x1 false nds' [] w w' → Hid (P2 A w' b v0 v1 v2 v3 x1 nds' x2 nds2 lg2) ∧ Hid (Keeps (fun k => A k ∨ Oth w k) w w')) ∧
    (∀ w' x' nds', EnvEnd A1 b 4 (c.setIfInBounds 4 x') x' false nds' [] w w' → Hid (P2 A w' b v0 v1 v2 v3 x' nds' x2 nds2 lg2) ∧ Hid (Keeps (fun k => A k ∨ Oth w k) w w')) := by
  obtain ⟨c, nd1, lv1, nd2, lv2, h, h0, h1, h2, h3⟩ := h
  refine ⟨_, c, nd1, lv1, h.amb.e1, fun k hk => .inl hk, fun w' nds' ⟨hk, nd', lgv', he⟩ => ?_, fun w' x' nds' ⟨hk, nd', lgv', he⟩ => ?_⟩
  · have hc : ∀ j, j ≠ 5 → j ≠ 7 → ((c.setIfInBounds (4 + 1) nd').setIfInBounds (4 + 3) lgv')[j]? = c[j]? := by
      intro j h5 h7
      rw [Array.getElem?_setIfInBounds, if_neg (by omega), Array.getElem?_setIfInBounds, if_neg (by omega)]
    refine ⟨⟨_, _, _, _, _, (h.amb.op1 hk he (fun j hj => hc j (by omega) (by omega))).narrow (fun k hk => .inl hk), ?_, ?_, ?_, ?_⟩, hk.narrow (fun k hk => .inl hk)⟩
    all_goals rw [hc _ (by omega) (by omega)]
    all_goals assumption
  · have hc : ∀ j, j ≠ 4 → j ≠ 5 → j ≠ 7 → (((c.setIfInBounds 4 x').setIfInBounds (4 + 1) nd').setIfInBounds (4 + 3) lgv')[j]? = c[j]? := by
      intro j h4 h5 h7
      rw [Array.getElem?_setIfInBounds, if_neg (by omega), Array.getElem?_setIfInBounds, if_neg (by omega), Array.getElem?_setIfInBounds, if_neg (by omega)]
    refine ⟨⟨_, _, _, _, _, (h.amb.op1 hk he (fun j hj => hc j (by omega) (by omega) (by omega))).narrow (fun k hk => .inl hk), ?_, ?_, ?_, ?_⟩, hk.narrow (fun k hk => .inl hk)⟩
    all_goals rw [hc _ (by omega) (by omega) (by omega)]
    all_goals assumption

/-- The ends' envelope, opened. -/
theorem P2.env2 (h : P2 A w b v0 v1 v2 v3 x1 nds1 x2 nds2 lg2) : ∃ A1 c nd lgv, EnvAt A1 w b 8 c x2 nd lgv true nds2 lg2 ∧ (∀ k, A k ∨ Oth w k → A1 k) ∧
    (∀ w' nds' lg', EnvEnd A1 b 8 c x2 true nds' lg' w w' → Hid (P2 A w' b v0 v1 v2 v3 x1 nds1 x2 nds' lg') ∧ Hid (Keeps (fun k => A k ∨ Oth w k) w w')) ∧
    (∀ w' x' nds' lg', EnvEnd A1 b 8 (c.setIfInBounds 8 x') x' true nds' lg' w w' → Hid (P2 A w' b v0 v1 v2 v3 x1 nds1 x' nds' lg') ∧ Hid (Keeps (fun k => A k ∨ Oth w k) w w')) := by
  obtain ⟨c, nd1, lv1, nd2, lv2, h, h0, h1, h2, h3⟩ := h
  refine ⟨_, c, nd2, lv2, h.amb.e2, fun k hk => .inl hk, fun w' nds' lg' ⟨hk, nd', lgv', he⟩ => ?_, fun w' x' nds' lg' ⟨hk, nd', lgv', he⟩ => ?_⟩
  · have hc : ∀ j, j ≠ 9 → j ≠ 11 → ((c.setIfInBounds (8 + 1) nd').setIfInBounds (8 + 3) lgv')[j]? = c[j]? := by
      intro j h5 h7
      rw [Array.getElem?_setIfInBounds, if_neg (by omega), Array.getElem?_setIfInBounds, if_neg (by omega)]
    refine ⟨⟨_, _, _, _, _, (h.amb.op2 hk he (fun j hj => hc j (by omega) (by omega))).narrow (fun k hk => .inl hk), ?_, ?_, ?_, ?_⟩, hk.narrow (fun k hk => .inl hk)⟩
    all_goals rw [hc _ (by omega) (by omega)]
    all_goals assumption
  · have hc : ∀ j, j ≠ 8 → j ≠ 9 → j ≠ 11 → (((c.setIfInBounds 8 x').setIfInBounds (8 + 1) nd').setIfInBounds (8 + 3) lgv')[j]? = c[j]? := by
      intro j h4 h5 h7
      rw [Array.getElem?_setIfInBounds, if_neg (by omega), Array.getElem?_setIfInBounds, if_neg (by omega), Array.getElem?_setIfInBounds, if_neg (by omega)]
    refine ⟨⟨_, _, _, _, _, (h.amb.op2 hk he (fun j hj => hc j (by omega) (by omega) (by omega))).narrow (fun k hk => .inl hk), ?_, ?_, ?_, ?_⟩, hk.narrow (fun k hk => .inl hk)⟩
    all_goals rw [hc _ (by omega) (by omega) (by omega)]
    all_goals assumption

/-- A world in which all but blocks of other kinds stands. -/
theorem EnvAt.keepOth {A : Nat → Prop} {w w' : World} {b o : Nat} {c : Array Value} {xv nd lgv : Value} {undo : Bool} {nds : List Nd} {lg : List Chg} (h : EnvAt A w b o c xv nd lgv undo nds lg) (hs : w.heap.size ≤ w'.heap.size) (hb : ∀ k, k < w.heap.size → ¬ Oth w k → w'.heap[k]? = w.heap[k]?) : EnvAt A w' b o c xv nd lgv undo nds lg := by
  have ha := h.amb
  refine ⟨(hb b h.lt (fun e => (ha.av b (.inr e)).2.1 rfl)).trans h.blk, h.h0, h.h1, h.h2, h.h3, owns_of_block h.rowN (fun k hk => hb k (owns_lt h.rowN hk) (fun e => (ha.av k (.inr e)).2.2.1 hk.symm)), owns_of_block h.rowL (fun k hk => hb k (owns_lt h.rowL hk) (fun e => (ha.av k (.inr e)).2.2.2 hk.symm)), fun k hk => ⟨by have := (h.av k hk).1; omega, (h.av k hk).2⟩⟩
theorem P2.keepOth (h : P2 A w b v0 v1 v2 v3 x1 nds1 x2 nds2 lg2) (hs : w.heap.size ≤ w'.heap.size) (hb : ∀ k, k < w.heap.size → ¬ Oth w k → w'.heap[k]? = w.heap[k]?) : P2 A w' b v0 v1 v2 v3 x1 nds1 x2 nds2 lg2 := by
  obtain ⟨c, nd1, lv1, nd2, lv2, h, hh⟩ := h
  exact ⟨c, nd1, lv1, nd2, lv2, ⟨h.e1.keepOth hs hb, h.e2.keepOth hs hb⟩, hh⟩
/-- A store into a block of another kind. -/
theorem P2.setCell (h : P2 A w b v0 v1 v2 v3 x1 nds1 x2 nds2 lg2) {k p : Nat} (hk : Oth w k) (v : Value) : P2 A (w.setCell ⟨k, p, none⟩ v) b v0 v1 v2 v3 x1 nds1 x2 nds2 lg2 :=
  h.keepOth (by rw [setCell_size]; exact Nat.le_refl _) (fun j hj hn => Below.heap_setCell _ _ _ _ (fun e => hn (by have e2 : j = k := e; rw [e2]; exact hk)))
/-- A row of another kind grows. -/
theorem P2.grown {base : Nat} {e : TypeId} {s : Nat} {v : Value} {n : Nat} {xs : List Value} (h : P2 A w b v0 v1 v2 v3 x1 nds1 x2 nds2 lg2) (ho : w.ownsRow base e s v n xs) (he : e ≠ 72 ∧ e ≠ 116 ∧ e ≠ 118) (hg : w.grownBy w' v.ownBlock) : P2 A w' b v0 v1 v2 v3 x1 nds1 x2 nds2 lg2 :=
  h.keepOth hg.size (fun j hj hn => hg.block j hj (fun e2 => hn (by obtain ⟨c, hc⟩ := owns_tag ho e2.symm; exact ⟨c, e, hc, he⟩)))
end
theorem oth_row {w : World} {g : Nat} {e : TypeId} {n : Nat} {f : Nat → Value} (h : w.rowIs g e n f) (he : e ≠ 72 ∧ e ≠ 116 ∧ e ≠ 118) : Oth w g := by
  obtain ⟨cur, h1, _⟩ := h
  exact ⟨cur, e, h1, he⟩
theorem oth_own {w : World} {base : Nat} {e : TypeId} {s : Nat} {v : Value} {n : Nat} {xs : List Value} (ho : w.ownsRow base e s v n xs) (he : e ≠ 72 ∧ e ≠ 116 ∧ e ≠ 118) : ∀ k, v.ownBlock = some k → Oth w k := fun k hk => by
  obtain ⟨c, hc⟩ := owns_tag ho hk
  exact ⟨c, e, hc, he⟩

/-- The partition as newPartition leaves it. -/
theorem PB.p2 {w : World} {b : Nat} {v0 v1 v2 v3 : Value} (h : PB w b v0 v1 v2 v3) {A : Nat → Prop} (hA : ∀ k, A k → k < w.heap.size ∧ k ≠ b) : P2 A w b v0 v1 v2 v3 (.slice none 0 0) [] (.slice none 0 0) [] [] := by
  refine ⟨_, .slice none 0 0, .slice none 0 0, .slice none 0 0, .slice none 0 0, ⟨⟨h, rfl, rfl, rfl, rfl, ⟨rfl, .inl ⟨rfl, rfl⟩⟩, ⟨rfl, .inl ⟨rfl, rfl⟩⟩, fun k hk => ?_⟩, ⟨h, rfl, rfl, rfl, rfl, ⟨rfl, .inl ⟨rfl, rfl⟩⟩, ⟨rfl, .inl ⟨rfl, rfl⟩⟩, fun k hk => ?_⟩⟩, rfl, rfl, rfl, rfl⟩
  · rcases hk with hk | hk | hk
    · exact ⟨(hA k hk).1, (hA k hk).2, by simp [Value.ownBlock], by simp [Value.ownBlock]⟩
    · simp [Value.ownBlock] at hk
    · simp [Value.ownBlock] at hk
  · rcases hk with hk | hk | hk
    · exact ⟨(hA k hk).1, (hA k hk).2, by simp [Value.ownBlock], by simp [Value.ownBlock]⟩
    · simp [Value.ownBlock] at hk
    · simp [Value.ownBlock] at hk

/-! ### The stack in memory -/
def flatB (L : List Bk) : List Value := L.flatMap Bk.cs
/-- The last block's cells. -/
theorem owns_top {w : World} {base : Nat} {x : Option Addr} {n z : Nat} {L : List Bk} {d : Bk} (h : w.ownsRow base 98 4 (.slice x n z) (L ++ [d]).length (flatB (L ++ [d]))) :
    ∃ g, x = some ⟨g, 0, none⟩ ∧ n = L.length + 1 ∧ base ≤ g ∧ w.cell? ⟨g, L.length * 4, none⟩ = some (.int .i64 d.lv) ∧ w.cell? ⟨g, L.length * 4 + 1, none⟩ = some (.int .i64 d.t) ∧ w.cell? ⟨g, L.length * 4 + 2, none⟩ = some (.int .i64 d.ml) ∧ w.cell? ⟨g, L.length * 4 + 3, none⟩ = some (.int .i64 d.mn) := by
  obtain ⟨g, z', hg, hbg⟩ : ∃ g z', Value.slice x n z = .slice (some ⟨g, 0, none⟩) (L ++ [d]).length z' ∧ base ≤ g := by
    rcases h.2 with ⟨_, hz⟩ | ⟨g, cap, cur, hv, hb, _⟩
    · simp at hz
    · exact ⟨g, cap, hv, hb⟩
  injection hg with h1 h2 h3
  subst h1 h2 h3
  have hc : ∀ j, j < 4 → w.cell? ⟨g, L.length * 4 + j, none⟩ = d.cs[j]? := by
    intro j hj
    rw [h.cellAt (L.length * 4 + j) (by simp; omega), flatB, flat_get Bk.cs 4 (fun _ => rfl) (L ++ [d]) L.length j hj]
    simp
  exact ⟨g, rfl, by simp, hbg, hc 0 (by omega), hc 1 (by omega), hc 2 (by omega), hc 3 (by omega)⟩
theorem owns_pop {w : World} {base : Nat} {x : Option Addr} {n z : Nat} {L : List Bk} {d : Bk} (h : w.ownsRow base 98 4 (.slice x n z) (L ++ [d]).length (flatB (L ++ [d]))) (hn : n = L.length + 1) : w.ownsRow base 98 4 (.slice x L.length z) L.length (flatB L) := by
  have hn' : (L ++ [d]).length = n := by simp [hn]
  rw [hn'] at h
  have := owns_cut h L.length (by omega)
  unfold flatB at this
  rw [flat_take Bk.cs 4 (fun _ => rfl)] at this
  simpa [flatB] using this
/-- A block is appended to the stack. -/
theorem wpList_app98 {ops : Array Oper} {rest : List Oper} {op : Oper} {a : Act} {X : World} {Q : Exit → Act → World → Prop} (hgd : op.guard = none) (s x : Operand)
    (ho : op.op = .call { callee := .builtin .append, args := #[s, x], argTypes := #[90, 90] }) (base : Nat) (v : Value) (L : List Bk) (d : Bk) (t : TypeId) (hs : a.eval s = v) (hx : a.eval x = .slice (some ⟨X.heap.size, 0, none⟩) 1 1)
    (hown : X.ownsRow base 98 4 v L.length (flatB L)) (hb : L.length + 1 ≤ 1099511627776) (hbase : base ≤ X.heap.size)
    (h : ∀ x' z' w', Hid (w'.ownsRow base 98 4 (.slice x' (L.length + 1) z') (L ++ [d]).length (flatB (L ++ [d]))) → Hid (X.grownBy w' v.ownBlock) → wpList Try.prog ops Q rest (a.put op.dst (.slice x' (L.length + 1) z')) w') :
    wpList Try.prog ops Q (op :: rest) a (X.alloc (.cells #[.int .i64 d.lv, .int .i64 d.t, .int .i64 d.ml, .int .i64 d.mn] t)) := by
  have hown' : (X.alloc (.cells #[.int .i64 d.lv, .int .i64 d.t, .int .i64 d.ml, .int .i64 d.mn] t)).ownsRow base 98 4 v L.length (flatB L) := World.ownsRow.alloc hown _
  obtain ⟨i0, hi, hii⟩ := Option.map_eq_some_iff.1 info98
  simp only [Prod.mk.injEq] at hii
  refine wpList_append_own_at _ hgd s x 90 ho base 98 i0 _ 4 32 Try.underlying90 hi hii.1 hii.2.1 hii.2.2 rfl (by decide) v L.length (flatB L) hs hown' ⟨X.heap.size, 0, none⟩ 1 1 d.cs hx rfl (new_cells X d.cs t) (by simp [Bk.cs, Value.oneCell']) (by unfold maxLen; omega) (by omega) (by rw [World.size_alloc]; omega) ?_
  intro v' w' h2 h3 h4 h5
  obtain ⟨x', z', rfl⟩ := owns_shape h2
  refine h x' z' w' ?_ ?_
  · unfold flatB at h2 ⊢
    rw [List.flatMap_append, List.length_append]
    refine hid ?_
    simpa using h2
  · exact ⟨h3.os, h3.tape, h3.output, by have := h3.size; rw [World.size_alloc] at this; omega, fun k hk hr => (h3.block k (by rw [World.size_alloc]; omega) hr).trans (Below.block ((Below.refl X.heap.size X).alloc (Nat.le_refl _) _) k hk)⟩

end Go.Proofs.Qxb6614303a

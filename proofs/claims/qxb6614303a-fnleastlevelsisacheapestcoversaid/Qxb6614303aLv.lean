/-
  Seat b6614303a. leastLevels' states: the partition, the rows of costs that it keeps.
-/
import Derived.Test.Qxb6614303aOpt3
import Derived.Test.Qxb6614303aNext
namespace Go.Proofs.Qxb6614303a
open Go.RowKit
set_option linter.unusedVariables false

theorem info22 : (Try.prog.info? 22).map (fun i => (i.zero, i.size, i.bytes)) = some (some (.slice none 0 0), 1, 24) := by kernel_rfl

/-- What the calls of leastLevels leave alone: what lay before, and the partition's rows. -/
def Am (w0 W1 : World) (k : Nat) : Prop := k < w0.heap.size ∨ Oth W1 k

/-- The partition as it is made, its rows, their bounds. -/
structure LX (w0 W1 : World) (pb la lz ba bz da dz ta tz R D : Nat) (lev : Nat → Int) (be : Nat → Nat) (dis : Nat → Int) (lat : Nat → Nat) : Prop where
  below : Below w0.heap.size w0 W1
  p2 : P2 (Am w0 W1) W1 pb (.slice (some ⟨la, 0, none⟩) R lz) (.slice (some ⟨ba, 0, none⟩) (R + 1) bz) (.slice (some ⟨da, 0, none⟩) D dz) (.slice (some ⟨ta, 0, none⟩) R tz) (.slice none 0 0) [] (.slice none 0 0) [] []
  al : Am w0 W1 la
  ab : Am w0 W1 ba
  ad : Am w0 W1 da
  at' : Am w0 W1 ta
  xl : Xs W1 la 0 R lev
  xb : Xs W1 ba 0 (R + 1) (ofN be)
  xd : Xs W1 da 0 D dis
  xt : Xs W1 ta 0 R (fun i => (lat i : Int))
  bz1 : R + 1 ≤ bz
  lz1 : R ≤ lz
  up : Up dis D
  dis0 : ∀ p, p < D → 0 ≤ dis p ∧ dis p ≤ 2199023255552
  lat0 : ∀ i, i < R → lat i < D ∧ dis (lat i) = lev i
  lb : Lb lev (ofN be) R
  hR : 0 < R
  hR2 : R ≤ 1024
  hD : 0 < D
  hD2 : D ≤ 1024

theorem xs_own {w : World} {base g n z : Nat} {L : List Int} {d : Int} (h : w.ownsRow base 2 1 (.slice (some ⟨g, 0, none⟩) n z) n (ints L)) (hn : L.length = n) : Xs w g 0 n (fun i => L.getD i d) := by
  intro j hj
  rw [Nat.zero_add, h.cellAt j (by omega), ints, List.getElem?_map, List.getElem?_eq_getElem (by omega)]
  simp [List.getD, List.getElem?_eq_getElem (show j < L.length by omega)]

/-- newPartition's end, as leastLevels reads it. -/
theorem NewEnd.lx {n : Nat} {zs : Nat → Int} {w W1 : World} {e : Ending} (h : NewEnd n zs w e W1) (hn0 : 0 < n) (hn : n ≤ 1024) (hz : ∀ s, s < n → 0 ≤ zs s ∧ zs s ≤ 2199023255552) :
    ∃ pb la lz ba bz da dz ta tz, e = .returned (.pointer (some ⟨pb, 0, none⟩)) ∧ LX w W1 pb la lz ba bz da dz ta tz (runsN zs n) (dist (runs zs n).1).length (levO zs n) (beO zs n) (disO zs n) (latO zs n) := by
  obtain ⟨hB, pb, la, lz, x2, z2, da, dz, ta, hpb, rfl, hpB, hl, hb, ⟨base, hbase, hd⟩, hta, ht⟩ := h
  have hlen := (runs_len zs n).2
  have hle := (runs_len zs n).1
  have hok := runs_ok zs n
  have hpos : 0 < runsN zs n := runs_pos zs n hn0
  obtain ⟨ba, rfl⟩ : ∃ ba, x2 = some ⟨ba, 0, none⟩ := by
    rcases hb.2 with ⟨h1, h2⟩ | ⟨g, cap, cur, h1, _⟩
    · simp at h2
    · injection h1 with h1
      exact ⟨g, h1⟩
  have hlb := hok.lb hn hz
  have ol : Oth W1 la := oth_own hl (by decide) la (by simp [Value.ownBlock])
  have ob : Oth W1 ba := oth_own hb (by decide) ba (by simp [Value.ownBlock])
  have od : Oth W1 da := oth_own hd (by decide) da (by simp [Value.ownBlock])
  have ot : Oth W1 ta := oth_row ht (by decide)
  have hdl := dist_len (runs zs n).1
  have hbN : ((runs zs n).2 ++ [(n : Int)]).length = runsN zs n + 1 := by simp [runsN]; omega
  have hb2 : W1.ownsRow w.heap.size 2 1 (.slice (some ⟨ba, 0, none⟩) (runsN zs n + 1) z2) (runsN zs n + 1) (ints ((runs zs n).2 ++ [(n : Int)])) := by
    rw [hbN] at hb
    have e1 : (runs zs n).2.length + 1 = runsN zs n + 1 := by simp only [runsN]; omega
    rw [e1] at hb
    exact hb
  refine ⟨pb, la, lz, ba, z2, da, dz, ta, runsN zs n, rfl, hB, ?_, .inr ol, .inr ob, .inr od, .inr ot, xs_own hl rfl, ?_, xs_own hd rfl, ?_, ?_, owns_cap hl, dis_up zs n, dis_bd hlb.lev0, lat_ok zs n, hlb, hpos, ?_, dis_pos hpos, by omega⟩
  · have e1 : (runs zs n).2.length + 1 = runsN zs n + 1 := by simp only [runsN]; omega
    rw [e1] at hpB
    refine hpB.p2 (fun k hk => ?_)
    have hs := hB.size
    rcases hk with hk | ⟨cs, t, h1, h2, -⟩
    · exact ⟨by omega, by omega⟩
    · refine ⟨(Array.getElem?_eq_some_iff.1 h1).1, fun e => ?_⟩
      subst e
      unfold PB at hpB
      rw [h1] at hpB
      simp only [Option.some.injEq, Obj.cells.injEq] at hpB
      exact h2 hpB.2.1
  · have := xs_own (d := 0) hb2 hbN
    intro j hj
    rw [this j hj]
    show some (Value.int .i64 (((runs zs n).2 ++ [(n : Int)]).getD j 0)) = _
    rw [beO_eq]
    rfl
  · intro j hj
    rw [Nat.zero_add]
    exact ht.cell hj
  · exact owns_cap hb2
  · simp only [runsN]; omega

/-- The partition between two calls. -/
structure LS (w0 W1 : World) (pb : Nat) (v0 v1 v2 v3 : Value) (wr : World) : Prop where
  keep : Keeps (Am w0 W1) W1 wr
  p2 : ∃ x1 nds1 x2 nds2 lg2, P2 (Am w0 W1) wr pb v0 v1 v2 v3 x1 nds1 x2 nds2 lg2

section
variable {w0 W1 wr w' : World} {pb la lz ba bz da dz ta tz R D : Nat} {lev : Nat → Int} {be : Nat → Nat} {dis : Nat → Int} {lat : Nat → Nat} {v0 v1 v2 v3 : Value}
theorem LX.alt (h : LX w0 W1 pb la lz ba bz da dz ta tz R D lev be dis lat) : ∀ k, Am w0 W1 k → k < W1.heap.size := h.p2.cells.2.2.2.2.2.2
theorem LX.start (h : LX w0 W1 pb la lz ba bz da dz ta tz R D lev be dis lat) : LS w0 W1 pb (.slice (some ⟨la, 0, none⟩) R lz) (.slice (some ⟨ba, 0, none⟩) (R + 1) bz) (.slice (some ⟨da, 0, none⟩) D dz) (.slice (some ⟨ta, 0, none⟩) R tz) W1 := ⟨Keeps.refl _ _, _, _, _, _, _, h.p2⟩
theorem LS.later (h : LS w0 W1 pb v0 v1 v2 v3 wr) (hA : ∀ k, Am w0 W1 k → k < W1.heap.size) (hb : Below wr.heap.size wr w') : LS w0 W1 pb v0 v1 v2 v3 w' := by
  obtain ⟨hk, x1, nds1, x2, nds2, lg2, hp⟩ := h
  exact ⟨hk.below hb hA, _, _, _, _, _, hp.later hb⟩
theorem LS.cells (h : LS w0 W1 pb v0 v1 v2 v3 wr) : wr.cell? ⟨pb, 0, none⟩ = some v0 ∧ wr.cell? ⟨pb, 1, none⟩ = some v1 ∧ pb < wr.heap.size := by
  obtain ⟨hk, x1, nds1, x2, nds2, lg2, hp⟩ := h
  exact ⟨hp.cells.1, hp.cells.2.1, hp.cells.2.2.2.2.1⟩
theorem LS.xs (h : LS w0 W1 pb v0 v1 v2 v3 wr) {xa xn : Nat} {xs : Nat → Int} (hA : Am w0 W1 xa) (hx : Xs W1 xa 0 xn xs) : Xs wr xa 0 xn xs := fun q hq => (h.keep.cell (a := ⟨xa, 0 + q, none⟩) hA).trans (hx q hq)
theorem LS.below (h : LS w0 W1 pb v0 v1 v2 v3 wr) (hb : Below w0.heap.size w0 W1) : Below w0.heap.size w0 wr :=
  ⟨h.keep.os.trans hb.os, h.keep.tape.trans hb.tape, h.keep.output.trans hb.output, Nat.le_trans hb.size h.keep.size, fun k hk => (h.keep.block k (.inl hk)).trans (hb.block k hk)⟩
/-- A store into a block of another kind that came later. -/
theorem LS.setCell (h : LS w0 W1 pb v0 v1 v2 v3 wr) (hA : ∀ k, Am w0 W1 k → k < W1.heap.size) {g : Nat} (hg : Oth wr g) (hgW : W1.heap.size ≤ g) (p : Nat) (v : Value) : LS w0 W1 pb v0 v1 v2 v3 (wr.setCell ⟨g, p, none⟩ v) := by
  obtain ⟨hk, x1, nds1, x2, nds2, lg2, hp⟩ := h
  exact ⟨hk.setCell (fun e => by have := hA g e; omega) v, _, _, _, _, _, hp.setCell hg v⟩
/-- A slice of slices of one's own grows. -/
theorem LS.grown (h : LS w0 W1 pb v0 v1 v2 v3 wr) (hA : ∀ k, Am w0 W1 k → k < W1.heap.size) {base : Nat} {v : Value} {n : Nat} {xs : List Value} (ho : wr.ownsRow base 22 1 v n xs) (hbase : W1.heap.size ≤ base) (hg : wr.grownBy w' v.ownBlock) : LS w0 W1 pb v0 v1 v2 v3 w' := by
  obtain ⟨hk, x1, nds1, x2, nds2, lg2, hp⟩ := h
  refine ⟨hk.grown hg hA (fun k hk e => ?_), _, _, _, _, _, hp.grown ho (by decide) hg⟩
  have h1 := hA k hk
  rcases ho.2 with ⟨rfl, _⟩ | ⟨q, cap, cur, rfl, hb, _⟩
  · simp [Value.ownBlock] at e
  · have : k = q := by simpa [Value.ownBlock] using e
    omega
end

/-- A row of costs, as a value. -/
def slv (R g : Nat) : Value := .slice (some ⟨g, 0, none⟩) (R + 1) (R + 1)
/-- All of another kind stands. -/
structure OthK (wr w' : World) : Prop where
  size : wr.heap.size ≤ w'.heap.size
  block : ∀ k, Oth wr k → w'.heap[k]? = wr.heap[k]?

def NxEnd (w0 W1 : World) (pb : Nat) (v0 v1 v2 v3 : Value) (R : Nat) (f : Nat → Int) (wr : World) (e : Ending) (w' : World) : Prop :=
  ∃ g, e = .returned (slv R g) ∧ wr.heap.size ≤ g ∧ Hid (LS w0 W1 pb v0 v1 v2 v3 w') ∧ Hid (w'.rowIs g 2 (R + 1) (fun q => .int .i64 (f q))) ∧ Hid (OthK wr w')

section
variable {w0 W1 wr w' : World} {pb la lz ba bz da dz ta tz R D : Nat} {lev : Nat → Int} {be : Nat → Nat} {dis : Nat → Int} {lat : Nat → Nat}
/-- nextRow, called by leastLevels. -/
theorem LS.next (h : LS w0 W1 pb (.slice (some ⟨la, 0, none⟩) R lz) (.slice (some ⟨ba, 0, none⟩) (R + 1) bz) (.slice (some ⟨da, 0, none⟩) D dz) (.slice (some ⟨ta, 0, none⟩) R tz) wr) (hx : LX w0 W1 pb la lz ba bz da dz ta tz R D lev be dis lat) {pa k : Nat} (hr : wr.rowIs pa 2 (R + 1) (fun q => .int .i64 (rowOf lev (ofN be) k q))) :
    Calls Try.prog 28 #[.pointer (some ⟨pb, 0, none⟩), slv R pa] wr (NxEnd w0 W1 pb (.slice (some ⟨la, 0, none⟩) R lz) (.slice (some ⟨ba, 0, none⟩) (R + 1) bz) (.slice (some ⟨da, 0, none⟩) D dz) (.slice (some ⟨ta, 0, none⟩) R tz) R (rowOf lev (ofN be) (k + 1)) wr) := by
  have h0 := h
  obtain ⟨hk, x1, nds1, x2, nds2, lg2, hp⟩ := h
  have hnc : NC (fun j => Am w0 W1 j ∨ Oth wr j) wr la ba da ta pa R D lev (ofN be) dis (rowOf lev (ofN be) k) lat :=
    ⟨.inl hx.al, .inl hx.ab, .inl hx.ad, .inl hx.at', .inr (oth_row hr (by decide)), h0.xs hx.al hx.xl, h0.xs hx.ab hx.xb, h0.xs hx.ad hx.xd, h0.xs hx.at' hx.xt, fun j hj => by rw [Nat.zero_add]; exact hr.cell hj, hx.up, hx.dis0, hx.lat0, row_bd hx.lb k⟩
  refine (next_any _ pb la lz ba bz da dz ta tz pa (R + 1) R D lev (ofN be) dis (rowOf lev (ofN be) k) lat x1 x2 nds1 nds2 lg2 wr hp.amb hnc hx.bz1 hx.hR hx.hR2 hx.hD hx.hD2).mono ?_
  rintro e w' ⟨hk2, g, y1, m1, y2, m2, l2, hg, rfl, hrow, hp2⟩
  exact ⟨g, rfl, hg, ⟨hk.trans (hk2.narrow (fun k hk => .inl hk)), _, _, _, _, _, hp2.narrow (fun k hk => .inl hk)⟩, hrow, ⟨hk2.size, fun j hj => hk2.block j (.inr hj)⟩⟩
end

/-! ### Rows of costs in a slice of slices -/
structure Rows (wr : World) (base : Nat) (v : Value) (L : List Nat) (R : Nat) (f : Nat → Nat → Int) : Prop where
  own : wr.ownsRow base 22 1 v L.length (L.map (slv R))
  row : ∀ i, i < L.length → wr.rowIs (L.getD i 0) 2 (R + 1) (fun q => .int .i64 (f i q))

section
variable {wr w' : World} {base : Nat} {v : Value} {L : List Nat} {R : Nat} {f : Nat → Nat → Int}
theorem rows_nil (wr : World) (base R : Nat) (f : Nat → Nat → Int) : Rows wr base (.slice none 0 0) [] R f := ⟨⟨rfl, .inl ⟨rfl, rfl⟩⟩, fun i hi => absurd hi (by simp)⟩
theorem Rows.keep (h : Rows wr base v L R f) (hk : OthK wr w') : Rows w' base v L R f :=
  ⟨owns_of_block h.own (fun k hk1 => hk.block k (oth_own h.own (by decide) k hk1)), fun i hi => rowIs_of_block (h.row i hi) (hk.block _ (oth_row (h.row i hi) (by decide)))⟩
theorem othK_later (hb : Below wr.heap.size wr w') : OthK wr w' := ⟨hb.size, fun k ⟨cs, t, h, _⟩ => hb.block k (Array.getElem?_eq_some_iff.1 h).1⟩
theorem Rows.later (h : Rows wr base v L R f) (hb : Below wr.heap.size wr w') : Rows w' base v L R f := h.keep (othK_later hb)
theorem Rows.shape (h : Rows wr base v L R f) : ∃ x z, v = .slice x L.length z := owns_shape h.own
/-- A row's slice, read. -/
theorem Rows.at (h : Rows wr base v L R f) {i : Nat} (hi : i < L.length) : ∃ q z, v = .slice (some ⟨q, 0, none⟩) L.length z ∧ wr.cell? ⟨q, i, none⟩ = some (slv R (L.getD i 0)) := by
  obtain ⟨q, z', hg⟩ : ∃ q z', v = .slice (some ⟨q, 0, none⟩) L.length z' := by
    rcases h.own.2 with ⟨_, hz⟩ | ⟨g, cap, cur, hv, hb, _⟩
    · omega
    · exact ⟨g, cap, hv⟩
  subst hg
  refine ⟨q, z', rfl, ?_⟩
  rw [h.own.cellAt i (by omega), List.getElem?_map, List.getElem?_eq_getElem hi]
  simp [List.getD, List.getElem?_eq_getElem hi]
/-- The slice is appended to. -/
theorem Rows.push (h : Rows wr base v L R f) {g : Nat} {v' : Value} (ho : w'.ownsRow base 22 1 v' (L ++ [g]).length ((L ++ [g]).map (slv R))) (hg : wr.grownBy w' v.ownBlock) (hr : wr.rowIs g 2 (R + 1) (fun q => .int .i64 (f L.length q))) : Rows w' base v' (L ++ [g]) R f := by
  have key : ∀ k (ff : Nat → Value), wr.rowIs k 2 (R + 1) ff → w'.rowIs k 2 (R + 1) ff := by
    intro k ff hk
    have hb := hk
    obtain ⟨cur, h1, _⟩ := hb
    refine rowIs_of_block hk (hg.block k (Array.getElem?_eq_some_iff.1 h1).1 (fun e => ?_))
    obtain ⟨c, hc⟩ := owns_tag h.own e.symm
    rw [h1] at hc
    simp at hc
  refine ⟨ho, fun i hi => ?_⟩
  simp only [List.length_append, List.length_cons, List.length_nil] at hi
  by_cases e : i < L.length
  · rw [getD_app_lt e]
    exact key _ _ (h.row i e)
  · obtain rfl : i = L.length := by omega
    rw [getD_app_eq rfl]
    exact key _ _ hr
/-- Another slice of slices grows. -/
theorem Rows.grown {base2 : Nat} {v2 : Value} {n2 : Nat} {xs2 : List Value} (h : Rows wr base v L R f) (ho : wr.ownsRow base2 22 1 v2 n2 xs2) (hne : ∀ k, v.ownBlock = some k → v2.ownBlock ≠ some k) (hg : wr.grownBy w' v2.ownBlock) : Rows w' base v L R f := by
  refine ⟨owns_of_block h.own (fun k hk => hg.block k (owns_lt h.own hk) (fun e => hne k hk e.symm)), fun i hi => ?_⟩
  have hr := h.row i hi
  have hb := hr
  obtain ⟨cur, h1, _⟩ := hb
  refine rowIs_of_block hr (hg.block _ (Array.getElem?_eq_some_iff.1 h1).1 (fun e => ?_))
  obtain ⟨c, hc⟩ := owns_tag ho e.symm
  rw [h1] at hc
  simp at hc
/-- A store into another row of numbers. -/
theorem Rows.setCell (h : Rows wr base v L R f) {g n : Nat} {ff : Nat → Value} (hr : wr.rowIs g 2 n ff) (hne : ∀ i, i < L.length → L.getD i 0 ≠ g) (p : Nat) (u : Value) : Rows (wr.setCell ⟨g, p, none⟩ u) base v L R f := by
  refine ⟨owns_of_block h.own (fun k hk => Below.heap_setCell _ _ _ _ (own_ne_row h.own hr (by decide) k hk)), fun i hi => rowIs_of_block (h.row i hi) (Below.heap_setCell _ _ _ _ (hne i hi))⟩
theorem Rows.cut (h : Rows wr base v L R f) {x : Option Addr} {z : Nat} (hv : v = .slice x L.length z) (f2 : Nat → Nat → Int) : Rows wr base (.slice x 0 z) [] R f2 := by
  subst hv
  have := owns_cut h.own 0 (Nat.zero_le _)
  exact ⟨by simpa using this, fun i hi => absurd hi (by simp)⟩
theorem Rows.ne_nil (h : Rows wr base v L R f) (hL : 0 < L.length) : v ≠ .slice none 0 0 := by
  obtain ⟨x, z, rfl⟩ := h.shape
  intro e
  injection e with e1 e2 e3
  omega
theorem Rows.congr {f2 : Nat → Nat → Int} (h : Rows wr base v L R f) (he : ∀ i, i < L.length → f i = f2 i) : Rows wr base v L R f2 := ⟨h.own, fun i hi => by rw [← he i hi]; exact h.row i hi⟩
end

/-- A row is appended to a slice of slices. -/
theorem wpList_app22 {ops : Array Oper} {rest : List Oper} {op : Oper} {a : Act} {X : World} {Q : Exit → Act → World → Prop} (hgd : op.guard = none) (s x : Operand)
    (ho : op.op = .call { callee := .builtin .append, args := #[s, x], argTypes := #[75, 75] }) (base : Nat) (v : Value) (L : List Nat) (R g : Nat) (t : TypeId) (hs : a.eval s = v) (hx : a.eval x = .slice (some ⟨X.heap.size, 0, none⟩) 1 1)
    (hown : X.ownsRow base 22 1 v L.length (L.map (slv R))) (hb : L.length + 1 ≤ 1099511627776) (hbase : base ≤ X.heap.size)
    (h : ∀ x' z' w', Hid (w'.ownsRow base 22 1 (.slice x' (L.length + 1) z') (L ++ [g]).length ((L ++ [g]).map (slv R))) → Hid (X.grownBy w' v.ownBlock) → wpList Try.prog ops Q rest (a.put op.dst (.slice x' (L.length + 1) z')) w') :
    wpList Try.prog ops Q (op :: rest) a (X.alloc (.cells #[slv R g] t)) := by
  have hown' : (X.alloc (.cells #[slv R g] t)).ownsRow base 22 1 v L.length (L.map (slv R)) := World.ownsRow.alloc hown _
  obtain ⟨i0, hi, hii⟩ := Option.map_eq_some_iff.1 info22
  simp only [Prod.mk.injEq] at hii
  refine wpList_append_own_at _ hgd s x 75 ho base 22 i0 _ 1 24 Try.underlying75 hi hii.1 hii.2.1 hii.2.2 rfl (by decide) v L.length (L.map (slv R)) hs hown' ⟨X.heap.size, 0, none⟩ 1 1 [slv R g] hx rfl (new_cells X [slv R g] t) (by simp [slv, Value.oneCell']) (by unfold maxLen; omega) (by omega) (by rw [World.size_alloc]; omega) ?_
  intro v' w' h2 h3 h4 h5
  obtain ⟨x', z', rfl⟩ := owns_shape h2
  refine h x' z' w' ?_ ?_
  · rw [List.map_append, List.length_append]
    exact h2
  · exact ⟨h3.os, h3.tape, h3.output, by have := h3.size; rw [World.size_alloc] at this; omega, fun k hk hr => (h3.block k (by rw [World.size_alloc]; omega) hr).trans (Below.block ((Below.refl X.heap.size X).alloc (Nat.le_refl _) _) k hk)⟩

/-! ### How many rows are kept -/
theorem kept_len {m sn i : Nat} (h : ∀ c, c < m ↔ c * sn < i) (hs : 1 ≤ sn) : m ≤ i := by
  rcases Nat.eq_zero_or_pos m with e | e
  · omega
  · have h1 := (h (m - 1)).1 (by omega)
    have h2 : (m - 1) * 1 ≤ (m - 1) * sn := Nat.mul_le_mul_left _ hs
    omega
theorem kept_mod {m sn i : Nat} (h : ∀ c, c < m ↔ c * sn < i) (hs : 1 ≤ sn) (hm : i % sn = 0) : m * sn = i := by
  have h1 : i / sn * sn = i := by have := Nat.div_add_mod i sn; rw [Nat.mul_comm]; omega
  have h2 : ¬ i / sn < m := fun e => by have := (h _).1 e; omega
  rcases Nat.lt_or_ge m (i / sn) with e | e
  · have h3 : (m + 1) * sn ≤ i / sn * sn := Nat.mul_le_mul_right _ e
    rw [Nat.add_mul] at h3
    have := (h m).2 (by omega)
    omega
  · rw [show m = i / sn by omega, h1]
theorem kept_push {m sn i : Nat} (h : m * sn = i) (hs : 1 ≤ sn) (c : Nat) : c < m + 1 ↔ c * sn < i + 1 := by
  constructor
  · intro hc
    have := Nat.mul_le_mul_right sn (show c ≤ m by omega)
    omega
  · intro hc
    rcases Nat.lt_or_ge c (m + 1) with e | e
    · exact e
    · have := Nat.mul_le_mul_right sn e
      rw [Nat.add_mul] at this
      omega
theorem kept_skip {m sn i : Nat} (h : ∀ c, c < m ↔ c * sn < i) (hm : i % sn ≠ 0) (c : Nat) : c < m ↔ c * sn < i + 1 := by
  rw [h c]
  have : c * sn ≠ i := fun e => hm (by rw [← e]; exact Nat.mul_mod_left c sn)
  omega
theorem maxOf_need (lev : Nat → Int) (L : List Int) (hl : ∀ i, i < L.length → L.getD i 0 = lev i) (h0 : ∀ i, i < L.length → 0 ≤ lev i) : ∀ j, 0 < j → j ≤ L.length → Lib.maxOf (L.take j) = need lev 0 j
  | 0, h, _ => absurd h (by omega)
  | j + 1, _, hj => by
    by_cases e : j = 0
    · subst e
      have := h0 0 (by omega)
      rw [Lib.maxOf_one, hl 0 (by omega), need, need]
      simp
      omega
    · rw [Lib.maxOf_step L j (by omega) (by omega), maxOf_need lev L hl h0 j (by omega) (by omega), hl j (by omega), need, Nat.zero_add]
/-- A row is appended in a region that draws its order. -/
theorem step_append_22 {ops : Array Oper} {op : Oper} {a : Act} {w : World} {K : Act → World → Prop} {Q : Exit → Act → World → Prop} {E : Prop} (hgd : op.guard = none) (s x : Operand)
    (ho : op.op = .call { callee := .builtin .append, args := #[s, x], argTypes := #[75, 75] })
    (base : Nat) (v : Value) (L : List Nat) (R g : Nat) (hs : a.eval s = v) (hown : w.ownsRow base 22 1 v L.length (L.map (slv R)))
    (ad : Addr) (hx : a.eval x = .slice (some ad) 1 1) (hsrc : w.cell? (ad.add 0) = some (slv R g)) (hb : L.length + 1 ≤ 1099511627776) (hbase : base ≤ w.heap.size)
    (h : ∀ x' z' w', w'.ownsRow base 22 1 (.slice x' (L.length + 1) z') (L ++ [g]).length ((L ++ [g]).map (slv R)) → w.grownBy w' v.ownBlock → K (a.put op.dst (.slice x' (L.length + 1) z')) w') :
    if Region.wanted op (yielded ops a.tmps) = true then Oper.wp Try.prog op a w K Q else E := by
  have hw : Region.wanted op (yielded ops a.tmps) = true := by simp [Region.wanted, hgd]
  rw [if_pos hw]
  obtain ⟨i0, hi, hii⟩ := Option.map_eq_some_iff.1 info22
  simp only [Prod.mk.injEq] at hii
  obtain ⟨v', w', hr, h2, h3, h4, h5⟩ := run_append_own_at (P := Try.prog) w base 75 op.type 22 i0 _ 1 24 Try.underlying75 hi hii.1 hii.2.1 hii.2.2 rfl (by decide) v L.length (L.map (slv R)) hown ad 1 1 [slv R g] rfl (fun j u hu => by
    cases j with
    | zero => simp only [List.getElem?_cons_zero, Option.some.injEq] at hu; rw [← hu]; exact hsrc
    | succ j => simp at hu) (by simp [slv, Value.oneCell']) (by unfold maxLen; omega) (by omega) hbase
  unfold Oper.wp execOp
  simp only [ho, resolve, invoke, builtin, Sem.run_bind, Sem.run_pure, Result.andThen_ok, List.map_toArray, List.map_cons, List.map_nil, hs, hx, hr]
  obtain ⟨x', z', rfl⟩ := owns_shape h2
  exact h x' z' w' (by rw [List.map_append, List.length_append]; exact h2) h3

/-- The state of the way down. -/
structure LT (w0 W1 : World) (pb : Nat) (v0 v1 v2 v3 : Value) (gl n R sn b2 : Nat) (lev : Nat → Int) (be : Nat → Nat) (out : Nat → Int) (kv : Value) (Lk : List Nat) (rv : Value) (L2 : List Nat) (fr : Nat) (lvl : Nat → Int) (wr : World) : Prop where
  ls : LS w0 W1 pb v0 v1 v2 v3 wr
  kept : Rows wr W1.heap.size kv Lk R (fun c => rowOf lev (ofN be) (c * sn))
  rows : Rows wr b2 rv L2 R (fun i => rowOf lev (ofN be) (fr - 1 + i))
  row : wr.rowIs gl 2 n (fun s => .int .i64 (lvl s))
  keptNe : ∀ i, i < Lk.length → Lk.getD i 0 ≠ gl
  rowsNe : ∀ i, i < L2.length → L2.getD i 0 ≠ gl
  apart : ∀ q, kv.ownBlock = some q → q < b2
  b2W : W1.heap.size ≤ b2
  glW : W1.heap.size ≤ gl
  glb : gl < b2
  b2s : b2 ≤ wr.heap.size

section
variable {w0 W1 wr w' : World} {pb gl n R sn b2 : Nat} {v0 v1 v2 v3 : Value} {lev : Nat → Int} {be : Nat → Nat} {out : Nat → Int} {kv : Value} {Lk : List Nat} {rv : Value} {L2 : List Nat} {fr : Nat} {lvl : Nat → Int}
theorem LT.later (h : LT w0 W1 pb v0 v1 v2 v3 gl n R sn b2 lev be out kv Lk rv L2 fr lvl wr) (hA : ∀ k, Am w0 W1 k → k < W1.heap.size) (hb : Below wr.heap.size wr w') : LT w0 W1 pb v0 v1 v2 v3 gl n R sn b2 lev be out kv Lk rv L2 fr lvl w' :=
  ⟨h.ls.later hA hb, h.kept.later hb, h.rows.later hb, rowIs_of_block h.row ((othK_later hb).block _ (oth_row h.row (by decide))), h.keptNe, h.rowsNe, h.apart, h.b2W, h.glW, h.glb, Nat.le_trans h.b2s hb.size⟩
theorem LT.keep (h : LT w0 W1 pb v0 v1 v2 v3 gl n R sn b2 lev be out kv Lk rv L2 fr lvl wr) (hs : LS w0 W1 pb v0 v1 v2 v3 w') (hk : OthK wr w') : LT w0 W1 pb v0 v1 v2 v3 gl n R sn b2 lev be out kv Lk rv L2 fr lvl w' :=
  ⟨hs, h.kept.keep hk, h.rows.keep hk, rowIs_of_block h.row (hk.block _ (oth_row h.row (by decide))), h.keptNe, h.rowsNe, h.apart, h.b2W, h.glW, h.glb, Nat.le_trans h.b2s hk.size⟩
theorem own_ge {w : World} {base : Nat} {v : Value} {m : Nat} {xs : List Value} {e : TypeId} {s : Nat} (ho : w.ownsRow base e s v m xs) : ∀ k, v.ownBlock = some k → base ≤ k := by
  intro k hk
  rcases ho.2 with ⟨rfl, _⟩ | ⟨q, cap, cur, rfl, hb, _⟩
  · simp [Value.ownBlock] at hk
  · have : q = k := by simpa [Value.ownBlock] using hk
    omega
/-- The rows at hand are appended to. -/
theorem LT.push (h : LT w0 W1 pb v0 v1 v2 v3 gl n R sn b2 lev be out kv Lk rv L2 fr lvl wr) (hA : ∀ k, Am w0 W1 k → k < W1.heap.size) {g : Nat} {rv' : Value} (ho : w'.ownsRow b2 22 1 rv' (L2 ++ [g]).length ((L2 ++ [g]).map (slv R))) (hg : wr.grownBy w' rv.ownBlock) (hr : wr.rowIs g 2 (R + 1) (fun q => .int .i64 (rowOf lev (ofN be) (fr - 1 + L2.length) q))) (hne : g ≠ gl) : LT w0 W1 pb v0 v1 v2 v3 gl n R sn b2 lev be out kv Lk rv' (L2 ++ [g]) fr lvl w' := by
  refine ⟨h.ls.grown hA h.rows.own h.b2W hg, h.kept.grown h.rows.own (fun k hk e => ?_) hg, h.rows.push ho hg hr, ?_, h.keptNe, fun i hi => ?_, h.apart, h.b2W, h.glW, h.glb, Nat.le_trans h.b2s hg.size⟩
  · have := h.apart k hk
    have := own_ge h.rows.own k e
    omega
  · have hr := h.row
    have hb := hr
    obtain ⟨cur, h1, _⟩ := hb
    refine rowIs_of_block hr (hg.block _ (Array.getElem?_eq_some_iff.1 h1).1 (fun e => ?_))
    have := own_ge h.rows.own gl e.symm
    have := h.glb
    omega
  · simp only [List.length_append, List.length_cons, List.length_nil] at hi
    by_cases e : i < L2.length
    · rw [getD_app_lt e]; exact h.rowsNe i e
    · rw [getD_app_eq (by omega)]; exact hne
/-- The rows at hand are dropped. -/
theorem LT.cut (h : LT w0 W1 pb v0 v1 v2 v3 gl n R sn b2 lev be out kv Lk rv L2 fr lvl wr) {x : Option Addr} {z : Nat} (hv : rv = .slice x L2.length z) (fr' : Nat) : LT w0 W1 pb v0 v1 v2 v3 gl n R sn b2 lev be out kv Lk (.slice x 0 z) [] fr' lvl wr :=
  ⟨h.ls, h.kept, h.rows.cut hv _, h.row, h.keptNe, fun i hi => absurd hi (by simp), h.apart, h.b2W, h.glW, h.glb, h.b2s⟩
/-- A level is laid. -/
theorem LT.lay (h : LT w0 W1 pb v0 v1 v2 v3 gl n R sn b2 lev be out kv Lk rv L2 fr lvl wr) (hA : ∀ k, Am w0 W1 k → k < W1.heap.size) (p : Nat) (v : Int) : LT w0 W1 pb v0 v1 v2 v3 gl n R sn b2 lev be out kv Lk rv L2 fr (fun s => if s = p then v else lvl s) (wr.setCell ⟨gl, p, none⟩ (.int .i64 v)) :=
  ⟨h.ls.setCell hA (oth_row h.row (by decide)) h.glW _ _, h.kept.setCell h.row h.keptNe _ _, h.rows.setCell h.row h.rowsNe _ _, (World.rowIs.set h.row p (.int .i64 v)).congr (fun q _ => by by_cases e : q = p <;> simp [e]), h.keptNe, h.rowsNe, h.apart, h.b2W, h.glW, h.glb, by rw [setCell_size]; exact h.b2s⟩
theorem LT.congr {lvl2 : Nat → Int} (h : LT w0 W1 pb v0 v1 v2 v3 gl n R sn b2 lev be out kv Lk rv L2 fr lvl wr) (he : ∀ s, s < n → lvl s = lvl2 s) : LT w0 W1 pb v0 v1 v2 v3 gl n R sn b2 lev be out kv Lk rv L2 fr lvl2 wr :=
  ⟨h.ls, h.kept, h.rows, h.row.congr (fun q hq => by rw [he q hq]), h.keptNe, h.rowsNe, h.apart, h.b2W, h.glW, h.glb, h.b2s⟩
end
end Go.Proofs.Qxb6614303a

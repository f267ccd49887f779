/-
  Seat b6605768a. (*Snapshot).take (33) and ZZsnapshotTake (19).
-/
import Derived.Laws.AppendOwnNone
import Derived.Test.Qxb6605768aSnap
namespace Go.Proofs.Qxb6605768a
open Go.RowKit
set_option linter.unusedVariables false

/-- A message, by the fields that take reads; the others whatever they are. -/
abbrev msg (u : Nat → Value) (li lt off sz : Int) (pa : Option Addr) (pn pc : Nat) (vm vr : Value) : Array Value :=
  #[u 0, u 1, u 2, u 3, .int .u64 li, .int .u64 lt, u 6, u 7, u 8, u 9, u 10, u 11, u 12, u 13, u 14, .int .u64 off, .int .u64 sz, .slice pa pn pc, u 18, vm, vr, u 21, u 22]

/-- The snapshot's block, whole. -/
def SnapAt (w : World) (b : Nat) (ix tm : Int) (vd vm vr : Value) : Prop := w.heap[b]? = some (.cells #[.int .u64 ix, .int .u64 tm, vd, .nilFunc, .int .i64 0, vm, vr] 53 (0, 0))

/-- Below B every block but b lies as it lay. -/
structure KeptBut (B b : Nat) (w w' : World) : Prop where
  os : w'.os = w.os
  tape : w'.tape = w.tape
  output : w'.output = w.output
  size : w.heap.size ≤ w'.heap.size
  block : ∀ k, k < B → k ≠ b → w'.heap[k]? = w.heap[k]?

/-- What is appended: nothing, or the cells behind an address. -/
def Piece (w : World) (pa : Option Addr) (pn pc : Nat) (ys : List Value) : Prop :=
  (pa = none ∧ pn = 0 ∧ pc = 0 ∧ ys = []) ∨ ∃ ad, pa = some ad ∧ ys.length = pn ∧ (∀ j u, ys[j]? = some u → w.cell? (ad.add j) = some u) ∧ ∀ u ∈ ys, u.oneCell' = true

theorem step_append_piece {ops : Array Oper} {o : Oper} {a : Act} {w : World} {K : Act → World → Prop} {Q : Exit → Act → World → Prop} {E : Prop} (hgd : o.guard = none) (s x : Operand)
    (ho : o.op = .call { callee := .builtin .append, args := #[s, x], argTypes := #[24, 24] })
    (base : Nat) (v : Value) (n : Nat) (xs : List Value) (hs : a.eval s = v) (hown : w.ownsRow base 5 1 v n xs)
    (pa : Option Addr) (pn pc : Nat) (ys : List Value) (hx : a.eval x = .slice pa pn pc) (hsrc : Piece w pa pn pc ys) (hb : n + pn ≤ 1048576) (hbase : base ≤ w.heap.size)
    (h : ∀ x' z' w', w'.ownsRow base 5 1 (.slice x' (n + pn) z') (n + pn) (xs ++ ys) → w.grownBy w' v.ownBlock → K (a.put o.dst (.slice x' (n + pn) z')) w') :
    if Region.wanted o (yielded ops a.tmps) = true then Oper.wp Try.prog o a w K Q else E := by
  have hw : Region.wanted o (yielded ops a.tmps) = true := by simp [Region.wanted, hgd]
  rw [if_pos hw]
  obtain ⟨i0, hi, hii⟩ := Option.map_eq_some_iff.1 info5
  simp only [Prod.mk.injEq] at hii
  have shape : ∀ {v' : Value} {w' : World} {m : Nat} {zs : List Value}, w'.ownsRow base 5 1 v' m zs → ∃ x' z', v' = .slice x' m z' := fun hh => by
    rcases hh.2 with ⟨rfl, rfl⟩ | ⟨g, cap, cur, rfl, _⟩
    · exact ⟨_, _, rfl⟩
    · exact ⟨_, _, rfl⟩
  rcases hsrc with ⟨rfl, rfl, rfl, rfl⟩ | ⟨ad, rfl, hl, hc, h1⟩
  · obtain ⟨x', z', rfl⟩ := shape hown
    have hrun := run_append_owned_none (P := Try.prog) (w := w) base 24 o.type 5 i0 1 Try.underlying24 hi _ n xs hown
    unfold Oper.wp
    simp [execOp, ho, resolve, invoke, builtin, hs, hx, hrun, Result.andThen]
    have hk := h x' z' w (by simpa using hown) ⟨rfl, rfl, rfl, Nat.le_refl _, fun _ _ _ => rfl⟩
    exact hk
  · refine wp_append_own w s x 24 ho base 5 i0 (.int .u8 0) 1 1 Try.underlying24 hi hii.1 hii.2.1 hii.2.2 rfl (by decide) v n xs hs hown ad pn pc ys hx (by omega) hc h1 (by unfold maxLen; omega) (by omega) hbase ?_
    intro v' w' h2 h3 _
    obtain ⟨x', z', rfl⟩ := shape h2
    exact h x' z' w' h2 h3

theorem putSnap_block {w : World} {b : Nat} {f : Nat → Value} (h : w.rowIs b 53 7 f) (v0 v1 v2 v3 v4 v5 v6 : Value) : (putSnap w b v0 v1 v2 v3 v4 v5 v6).heap[b]? = some (.cells #[v0, v1, v2, v3, v4, v5, v6] 53 (0, 0)) := by
  obtain ⟨c, hb, hn, hc⟩ := ((((((h.set 0 v0).set 1 v1).set 2 v2).set 3 v3).set 4 v4).set 5 v5).set 6 v6
  refine hb.trans ?_
  have e : c = #[v0, v1, v2, v3, v4, v5, v6] := by
    apply Array.ext
    · simpa using hn
    · intro i h1 h2
      have hi := hc i (by omega)
      rw [Array.getElem?_eq_getElem h1] at hi
      simp only [Option.some.injEq] at hi
      rw [hi]
      have : i = 0 ∨ i = 1 ∨ i = 2 ∨ i = 3 ∨ i = 4 ∨ i = 5 ∨ i = 6 := by omega
      rcases this with rfl | rfl | rfl | rfl | rfl | rfl | rfl <;> simp
  rw [e]

theorem SnapAt.row {w : World} {b : Nat} {ix tm : Int} {vd vm vr : Value} (h : SnapAt w b ix tm vd vm vr) : ∃ f, w.rowIs b 53 7 f :=
  ⟨fun i => #[.int .u64 ix, .int .u64 tm, vd, .nilFunc, .int .i64 0, vm, vr][i]!, _, h, rfl, fun i hi => by
    have : i = 0 ∨ i = 1 ∨ i = 2 ∨ i = 3 ∨ i = 4 ∨ i = 5 ∨ i = 6 := by omega
    rcases this with rfl | rfl | rfl | rfl | rfl | rfl | rfl <;> rfl⟩
theorem SnapAt.lt {w : World} {b : Nat} {ix tm : Int} {vd vm vr : Value} (h : SnapAt w b ix tm vd vm vr) : b < w.heap.size := (Array.getElem?_eq_some_iff.1 h).1

theorem grown_of_below {w w' : World} (h : Below w.heap.size w w') : w.grownBy w' none := ⟨h.os, h.tape, h.output, h.size, fun k hk _ => h.block k hk⟩

theorem KeptBut.grown {B b : Nat} {w X Y : World} {row : Option Nat} (h : KeptBut B b w X) (hg : X.grownBy Y row) (hB : B ≤ X.heap.size) (hr : ∀ k, row = some k → B ≤ k) : KeptBut B b w Y :=
  ⟨hg.os.trans h.os, hg.tape.trans h.tape, hg.output.trans h.output, Nat.le_trans h.size hg.size, fun k hk hne => (hg.block k (by omega) (fun e => by have := hr k e.symm; omega)).trans (h.block k hk hne)⟩
theorem KeptBut.set {B b : Nat} {w X : World} (h : KeptBut B b w X) (p : Nat) (v : Value) : KeptBut B b w (X.setCell ⟨b, p, none⟩ v) :=
  ⟨h.os, h.tape, h.output, by simpa [World.setCell] using h.size, fun k hk hne => (Below.heap_setCell _ _ _ _ hne).trans (h.block k hk hne)⟩
theorem KeptBut.of_below {B b : Nat} {w X : World} (h : Below B w X) : KeptBut B b w X := ⟨h.os, h.tape, h.output, h.size, fun k hk _ => h.block k hk⟩
theorem KeptBut.drew {B b : Nat} {w X : World} (h : KeptBut B b w X) : KeptBut B b w X.drew := ⟨h.os, h.tape, h.output, h.size, h.block⟩

theorem owns_below {w w' : World} {base : Nat} {e : TypeId} {size : Nat} {v : Value} {n : Nat} {xs : List Value} (h : w.ownsRow base e size v n xs) (hb : Below w.heap.size w w') : w'.ownsRow base e size v n xs := by
  refine ⟨h.1, ?_⟩
  rcases h.2 with h | ⟨g, cap, cur, h1, h2, h3, h4⟩
  · exact .inl h
  · exact .inr ⟨g, cap, cur, h1, h2, (hb.block g (Array.getElem?_eq_some_iff.1 h3).1).trans h3, h4⟩
theorem owns_put {w : World} {base b : Nat} {e : TypeId} {size : Nat} {v : Value} {n : Nat} {xs : List Value} (h : w.ownsRow base e size v n xs) (hb : b < base) (v0 v1 v2 v3 v4 v5 v6 : Value) : (putSnap w b v0 v1 v2 v3 v4 v5 v6).ownsRow base e size v n xs :=
  ownsRow_setCell_below (ownsRow_setCell_below (ownsRow_setCell_below (ownsRow_setCell_below (ownsRow_setCell_below (ownsRow_setCell_below (ownsRow_setCell_below h hb _) hb _) hb _) hb _) hb _) hb _) hb _

theorem cell_grown {X Y : World} {row : Option Nat} {a : Addr} {v : Value} (h : X.cell? a = some v) (hg : X.grownBy Y row) (hne : some a.block ≠ row) : Y.cell? a = some v := hg.cell h hne
theorem row_grown {X Y : World} {row : Option Nat} {b : Nat} {t : TypeId} {n : Nat} {f : Nat → Value} (h : X.rowIs b t n f) (hg : X.grownBy Y row) (hne : some b ≠ row) : Y.rowIs b t n f := h.of_block (hg.block _ h.lt hne)

/-- The first piece is taken: the snapshot starts afresh. -/
def TakeAEnd (b : Nat) (li lt : Int) (pn : Nat) (ys : List Value) (vm vr : Value) (w : World) (e : Ending) (w' : World) : Prop :=
  e = .returned (.bool true) ∧ KeptBut w.heap.size b w w' ∧ ∃ x z, SnapAt w' b li lt (.slice x pn z) vm vr ∧ w'.ownsRow w.heap.size 5 1 (.slice x pn z) pn ys

set_option maxRecDepth 100000 in
set_option maxHeartbeats 4000000 in
theorem takeA_any (b : Nat) (ix tm : Int) (vd vm0 vr0 : Value) (u : Nat → Value) (li lt sz : Int) (pa : Option Addr) (pn pc : Nat) (ys : List Value) (ma : Option Addr) (mn mc : Nat) (ra : Option Addr) (w : World)
    (hs : SnapAt w b ix tm vd vm0 vr0) (hsz : 0 ≤ sz) (hsz2 : sz ≤ 65536) (hp : Piece w pa pn pc ys) (hpn : pn ≤ 1048576) :
    Calls Try.prog 33 #[.pointer (some ⟨b, 0, none⟩), .agg (msg u li lt 0 sz pa pn pc (.slice ma mn mc) (.pointer ra))] w (TakeAEnd b li lt pn ys (.slice ma mn mc) (.pointer ra) w) := by
  obtain ⟨i0, hi, hii⟩ := Option.map_eq_some_iff.1 info5
  simp only [Prod.mk.injEq] at hii
  have hmk := fun w => run_make (P := Try.prog) w 24 5 i0 _ Try.underlying24 hi hii.1 .i64 .u64 0 sz (by omega) hsz (by rw [hii.2.2]; omega) (by omega)
  simp only [hii.2.1, Int.toNat_zero, Value.cells, Nat.mul_one] at hmk
  clear hi hii
  have hlt := hs.lt
  have hrow := hs.row
  have HP : Hid _ := hp
  clear hp hs
  go_enter Try.func33, Try.ntmps33
  go_wp2
  clear hmk
  obtain ⟨W, hW⟩ : ∃ W, (w.alloc (.cells (msg u li lt 0 sz pa pn pc (.slice ma mn mc) (.pointer ra)) 59)).alloc (.cells (madeCells #[.int .u8 0] sz.toNat) 5) = W := ⟨_, rfl⟩
  have hB : Below w.heap.size w W := by rw [← hW]; exact ((Below.refl _ _).alloc (Nat.le_refl _) _).alloc (by simp) _
  have HZ : Hid (W.heap.size = w.heap.size + 2) := by rw [← hW]; simp [Hid]
  have HO : Hid (W.drew.ownsRow w.heap.size 5 1 (.slice (some ⟨w.heap.size + 1, 0, none⟩) 0 sz.toNat) 0 []) := by
    have h1 := World.ownsRow_made (base := w.heap.size) (e := 5) (size := 1) (w.alloc (.cells (msg u li lt 0 sz pa pn pc (.slice ma mn mc) (.pointer ra)) 59)) (madeCells #[.int .u8 0] sz.toNat) sz.toNat (by simp) (by unfold maxLen; omega) (by rw [size_madeCells]; omega)
    rw [hW, World.size_alloc] at h1
    exact h1
  have HPW : Hid (Piece W.drew pa pn pc ys) := by
    rcases HP.out with h | ⟨ad, h1, h2, h3, h4⟩
    · exact .inl h
    · exact .inr ⟨ad, h1, h2, fun j u' hu => (hB.cell (World.block_lt_of_cell? _ _ (h3 j u' hu))).trans (h3 j u' hu), h4⟩
  have HS0 : Hid (KeptBut w.heap.size b w W.drew ∧ (∃ f, W.drew.rowIs b 53 7 f) ∧ W.drew.cell? ⟨w.heap.size, 4, none⟩ = some (.int .u64 li) ∧ W.drew.cell? ⟨w.heap.size, 5, none⟩ = some (.int .u64 lt) ∧ W.drew.cell? ⟨w.heap.size, 17, none⟩ = some (.slice pa pn pc) ∧ W.drew.cell? ⟨w.heap.size, 19, none⟩ = some (.slice ma mn mc) ∧ W.drew.cell? ⟨w.heap.size, 20, none⟩ = some (.pointer ra)) := by
    refine ⟨(KeptBut.of_below hB).drew, ?_, ?_⟩
    · obtain ⟨f, hf⟩ := hrow
      exact ⟨f, hf.of_block (hB.block _ hlt)⟩
    · rw [← hW]
      exact ⟨by simp, by simp, by simp, by simp, by simp⟩
  rw [hW]
  clear hW
  have HK : Hid (∀ (X Y : World), (KeptBut w.heap.size b w X ∧ (∃ f, X.rowIs b 53 7 f) ∧ X.cell? ⟨w.heap.size, 4, none⟩ = some (.int .u64 li) ∧ X.cell? ⟨w.heap.size, 5, none⟩ = some (.int .u64 lt) ∧ X.cell? ⟨w.heap.size, 17, none⟩ = some (.slice pa pn pc) ∧ X.cell? ⟨w.heap.size, 19, none⟩ = some (.slice ma mn mc) ∧ X.cell? ⟨w.heap.size, 20, none⟩ = some (.pointer ra)) → Below X.heap.size X Y → (KeptBut w.heap.size b w Y ∧ (∃ f, Y.rowIs b 53 7 f) ∧ Y.cell? ⟨w.heap.size, 4, none⟩ = some (.int .u64 li) ∧ Y.cell? ⟨w.heap.size, 5, none⟩ = some (.int .u64 lt) ∧ Y.cell? ⟨w.heap.size, 17, none⟩ = some (.slice pa pn pc) ∧ Y.cell? ⟨w.heap.size, 19, none⟩ = some (.slice ma mn mc) ∧ Y.cell? ⟨w.heap.size, 20, none⟩ = some (.pointer ra))) := by
    rintro X Y ⟨s0, s1, s2, s3, s4, s5, s6⟩ hXY
    exact ⟨s0.grown (grown_of_below hXY) s0.size (fun k e => by cases e), (by obtain ⟨f, h⟩ := s1; exact ⟨f, h.of_block (hXY.block _ h.lt)⟩), keepc s2 hXY, keepc s3 hXY, keepc s4 hXY, keepc s5 hXY, keepc s6 hXY⟩
  have HG : Hid (∀ (X Y : World), (KeptBut w.heap.size b w X ∧ (∃ f, X.rowIs b 53 7 f) ∧ X.cell? ⟨w.heap.size, 4, none⟩ = some (.int .u64 li) ∧ X.cell? ⟨w.heap.size, 5, none⟩ = some (.int .u64 lt) ∧ X.cell? ⟨w.heap.size, 17, none⟩ = some (.slice pa pn pc) ∧ X.cell? ⟨w.heap.size, 19, none⟩ = some (.slice ma mn mc) ∧ X.cell? ⟨w.heap.size, 20, none⟩ = some (.pointer ra)) → X.grownBy Y (some (w.heap.size + 1)) → (KeptBut w.heap.size b w Y ∧ (∃ f, Y.rowIs b 53 7 f) ∧ Y.cell? ⟨w.heap.size, 4, none⟩ = some (.int .u64 li) ∧ Y.cell? ⟨w.heap.size, 5, none⟩ = some (.int .u64 lt) ∧ Y.cell? ⟨w.heap.size, 17, none⟩ = some (.slice pa pn pc) ∧ Y.cell? ⟨w.heap.size, 19, none⟩ = some (.slice ma mn mc) ∧ Y.cell? ⟨w.heap.size, 20, none⟩ = some (.pointer ra))) := by
    rintro X Y ⟨s0, s1, s2, s3, s4, s5, s6⟩ hg
    exact ⟨s0.grown hg s0.size (fun k e => by cases e; omega), (by obtain ⟨f, h⟩ := s1; exact ⟨f, row_grown h hg (by simp; omega)⟩), cell_grown s2 hg (by simp), cell_grown s3 hg (by simp), cell_grown s4 hg (by simp), cell_grown s5 hg (by simp), cell_grown s6 hg (by simp)⟩
  have HK2 : Hid (∀ (X : World) (v0 v1 v2 v3 v4 v5 v6 : Value), (KeptBut w.heap.size b w X ∧ (∃ f, X.rowIs b 53 7 f) ∧ X.cell? ⟨w.heap.size, 4, none⟩ = some (.int .u64 li) ∧ X.cell? ⟨w.heap.size, 5, none⟩ = some (.int .u64 lt) ∧ X.cell? ⟨w.heap.size, 17, none⟩ = some (.slice pa pn pc) ∧ X.cell? ⟨w.heap.size, 19, none⟩ = some (.slice ma mn mc) ∧ X.cell? ⟨w.heap.size, 20, none⟩ = some (.pointer ra)) → (KeptBut w.heap.size b w (((((((X.setCell ⟨b, 0, none⟩ v0).setCell ⟨b, 1, none⟩ v1).setCell ⟨b, 2, none⟩ v2).setCell ⟨b, 3, none⟩ v3).setCell ⟨b, 4, none⟩ v4).setCell ⟨b, 5, none⟩ v5).setCell ⟨b, 6, none⟩ v6) ∧ (∃ f, (((((((X.setCell ⟨b, 0, none⟩ v0).setCell ⟨b, 1, none⟩ v1).setCell ⟨b, 2, none⟩ v2).setCell ⟨b, 3, none⟩ v3).setCell ⟨b, 4, none⟩ v4).setCell ⟨b, 5, none⟩ v5).setCell ⟨b, 6, none⟩ v6).rowIs b 53 7 f) ∧ (((((((X.setCell ⟨b, 0, none⟩ v0).setCell ⟨b, 1, none⟩ v1).setCell ⟨b, 2, none⟩ v2).setCell ⟨b, 3, none⟩ v3).setCell ⟨b, 4, none⟩ v4).setCell ⟨b, 5, none⟩ v5).setCell ⟨b, 6, none⟩ v6).cell? ⟨w.heap.size, 4, none⟩ = some (.int .u64 li) ∧ (((((((X.setCell ⟨b, 0, none⟩ v0).setCell ⟨b, 1, none⟩ v1).setCell ⟨b, 2, none⟩ v2).setCell ⟨b, 3, none⟩ v3).setCell ⟨b, 4, none⟩ v4).setCell ⟨b, 5, none⟩ v5).setCell ⟨b, 6, none⟩ v6).cell? ⟨w.heap.size, 5, none⟩ = some (.int .u64 lt) ∧ (((((((X.setCell ⟨b, 0, none⟩ v0).setCell ⟨b, 1, none⟩ v1).setCell ⟨b, 2, none⟩ v2).setCell ⟨b, 3, none⟩ v3).setCell ⟨b, 4, none⟩ v4).setCell ⟨b, 5, none⟩ v5).setCell ⟨b, 6, none⟩ v6).cell? ⟨w.heap.size, 17, none⟩ = some (.slice pa pn pc) ∧ (((((((X.setCell ⟨b, 0, none⟩ v0).setCell ⟨b, 1, none⟩ v1).setCell ⟨b, 2, none⟩ v2).setCell ⟨b, 3, none⟩ v3).setCell ⟨b, 4, none⟩ v4).setCell ⟨b, 5, none⟩ v5).setCell ⟨b, 6, none⟩ v6).cell? ⟨w.heap.size, 19, none⟩ = some (.slice ma mn mc) ∧ (((((((X.setCell ⟨b, 0, none⟩ v0).setCell ⟨b, 1, none⟩ v1).setCell ⟨b, 2, none⟩ v2).setCell ⟨b, 3, none⟩ v3).setCell ⟨b, 4, none⟩ v4).setCell ⟨b, 5, none⟩ v5).setCell ⟨b, 6, none⟩ v6).cell? ⟨w.heap.size, 20, none⟩ = some (.pointer ra))) := by
    rintro X v0 v1 v2 v3 v4 v5 v6 ⟨s0, s1, s2, s3, s4, s5, s6⟩
    refine ⟨((((((s0.set _ _).set _ _).set _ _).set _ _).set _ _).set _ _).set _ _, ?_, ?_, ?_, ?_, ?_, ?_⟩
    · obtain ⟨f, h⟩ := s1
      exact ⟨_, ((((((h.set _ _).set _ _).set _ _).set _ _).set _ _).set _ _).set _ _⟩
    all_goals (repeat (refine cell_far ?_ (by omega))); assumption
  clear hB hrow
  go_region_held3 (fun w' => KeptBut w.heap.size b w w' ∧ (∃ f, w'.rowIs b 53 7 f) ∧ w'.cell? ⟨w.heap.size, 4, none⟩ = some (.int .u64 li) ∧ w'.cell? ⟨w.heap.size, 5, none⟩ = some (.int .u64 lt) ∧ w'.cell? ⟨w.heap.size, 17, none⟩ = some (.slice pa pn pc) ∧ w'.cell? ⟨w.heap.size, 19, none⟩ = some (.slice ma mn mc) ∧ w'.cell? ⟨w.heap.size, 20, none⟩ = some (.pointer ra))
    (first | (with_reducible assumption) | (with_reducible exact HS0.out) | (with_reducible exact HK2.out _ _ _ _ _ _ _ _ (by with_reducible assumption)) | (with_reducible exact HK.out _ _ (by with_reducible assumption) (by with_reducible assumption)) | (with_reducible exact HG.out _ _ (by with_reducible assumption) (by with_reducible assumption)))
    (first
      | (refine step_append_piece rfl _ _ rfl w.heap.size _ 0 [] rfl HO.out pa pn pc ys rfl HPW.out (by omega) (by have := HZ.out; show w.heap.size ≤ W.heap.size; omega) ?_; intro x1 z1 w1 hown1 hgrow1; have hg1 : W.drew.grownBy w1 (some (w.heap.size + 1)) := hgrow1; clear hgrow1; simp only [Nat.zero_add] at hown1 ⊢)
      | (go_at_call 32; have hSold := ‹KeptBut w.heap.size b w _ ∧ _›; refine Calls.mono (snapbytes_any _ _ _ _) ?_; rintro e w2 ⟨rfl, hB2⟩; obtain ⟨f2, hf2⟩ := (HK.out _ _ hSold hB2).2.1;
          have r0 := hf2.cell (i := 0) (by omega); have r1 := hf2.cell (i := 1) (by omega); have r2 := hf2.cell (i := 2) (by omega); have r3 := hf2.cell (i := 3) (by omega); have r4 := hf2.cell (i := 4) (by omega); have r5 := hf2.cell (i := 5) (by omega); have r6 := hf2.cell (i := 6) (by omega);
          have q0 := hf2.frozen 0; have q1 := hf2.frozen 1; have q2 := hf2.frozen 2; have q3 := hf2.frozen 3; have q4 := hf2.frozen 4; have q5 := hf2.frozen 5; have q6 := hf2.frozen 6))
  go_wp2
  have hfin := ‹KeptBut w.heap.size b w _ ∧ _›
  go_ret
  exact ⟨rfl, hfin.1, x1, z1, putSnap_block hf2 _ _ _ _ _ _ _, owns_put (owns_below hown1 hB2) hlt _ _ _ _ _ _ _⟩

end Go.Proofs.Qxb6605768a

/-
  Seat b6605768a. (*Snapshot).take (33): a later piece is taken, or refused; SnapshotData.Size (34); ZZsnapshotTake (19).
-/
import Derived.Deep.RegionLaw
import Derived.Deep.DeepMust
import Derived.Test.Qxb6605768aTake
namespace Go.Proofs.Qxb6605768a
open Go.RowKit
set_option linter.unusedVariables false

theorem run_neq_nilFunc {P : Program} (w : World) (t : TypeId) (ps rs : Array TypeId) (v : Bool) (h : P.underlying t = some (.func ps rs v)) :
    (binOp .neq t .nilFunc .nilFunc).run P w = .ok (.bool false) w := by
  have h1 : ∀ d : Nat, (Op.equalIn (d + 1) t .nilFunc .nilFunc).run P w = .ok true w := fun d => by simp [Op.equalIn, run_underlying h]
  simp only [binOp]
  simp [Op.equal, Op.maxDepth, h1 9999]

def SizeEnd (n : Nat) (w : World) (e : Ending) (w' : World) : Prop := e = .returned (.int .i64 n) ∧ Below w.heap.size w w'

set_option maxHeartbeats 400000 in
theorem size_any (x : Option Addr) (n z : Nat) (w : World) (hn : n ≤ 1048576) : Calls Try.prog 34 #[.agg #[.slice x n z, .nilFunc, .int .i64 0]] w (SizeEnd n w) := by
  have q : ∀ w : World, (binOp .neq 47 .nilFunc .nilFunc).run Try.prog w = .ok (.bool false) w := fun w => run_neq_nilFunc w _ _ _ _ Try.underlying47
  go_enter Try.func34, Try.ntmps34
  go_wp2
  go_ret
  exact ⟨rfl, (Below.refl _ _).alloc (Nat.le_refl _) _⟩

theorem SnapAt.cells {w : World} {b : Nat} {ix tm : Int} {vd vm vr : Value} (h : SnapAt w b ix tm vd vm vr) :
    w.cell? ⟨b, 0, none⟩ = some (.int .u64 ix) ∧ w.cell? ⟨b, 1, none⟩ = some (.int .u64 tm) ∧ w.cell? ⟨b, 2, none⟩ = some vd ∧ w.cell? ⟨b, 3, none⟩ = some .nilFunc ∧ w.cell? ⟨b, 4, none⟩ = some (.int .i64 0) ∧ w.cell? ⟨b, 5, none⟩ = some vm ∧ w.cell? ⟨b, 6, none⟩ = some vr := by
  have h' : w.heap[b]? = _ := h
  refine ⟨?_, ?_, ?_, ?_, ?_, ?_, ?_⟩ <;> simp [World.cell?, h']
theorem SnapAt.later {w w' : World} {b : Nat} {ix tm : Int} {vd vm vr : Value} (h : SnapAt w b ix tm vd vm vr) (hb : Below w.heap.size w w') : SnapAt w' b ix tm vd vm vr := (hb.block b h.lt).trans h

/-- A later piece of the same snapshot, where the data ends: it is appended. -/
def TakeBEnd (base b : Nat) (ix tm : Int) (n pn : Nat) (xs ys : List Value) (vm vr : Value) (w : World) (e : Ending) (w' : World) : Prop :=
  e = .returned (.bool true) ∧ KeptBut base b w w' ∧ ∃ x z, SnapAt w' b ix tm (.slice x (n + pn) z) vm vr ∧ w'.ownsRow base 5 1 (.slice x (n + pn) z) (n + pn) (xs ++ ys)

theorem wrap_small {n : Nat} (h : n ≤ 1048576) : IntKind.u64.wrap (n : Int) = n := by
  have e : IntKind.u64.wrap (n : Int) = (n : Int) % 18446744073709551616 := by simp [IntKind.wrap, IntKind.signed, IntKind.bits]
  rw [e]; omega

theorem snap_set3 {w : World} {b : Nat} {ix tm : Int} {vd vm vr v : Value} (h : SnapAt w b ix tm vd vm vr) :
    SnapAt (((w.setCell ⟨b, 2, none⟩ v).setCell ⟨b, 3, none⟩ .nilFunc).setCell ⟨b, 4, none⟩ (.int .i64 0)) b ix tm v vm vr := by
  have h' : w.heap[b]? = _ := h
  simp [SnapAt, World.setCell, Array.getElem?_modify, h']

theorem hgrow_snap {w w' : World} {b base : Nat} {ix tm : Int} {vd vm vr v : Value} {n : Nat} {xs : List Value} (h : SnapAt w b ix tm vd vm vr) (ho : w.drew.ownsRow base 5 1 v n xs) (hb : b < base) (hg : w.drew.grownBy w' v.ownBlock) : SnapAt w' b ix tm vd vm vr := by
  refine (hg.block b h.lt (fun e => ?_)).trans h
  have := (ho.lt b e.symm).1
  omega

theorem takeB_kept {w w1 w3 w4 : World} {b base : Nat} {v : Value} {n : Nat} {xs : List Value} (hbw : base ≤ w.heap.size) (h1 : Below w.heap.size w w1) (ho : w1.drew.ownsRow base 5 1 v n xs) (hg : w1.drew.grownBy w3 v.ownBlock) (h4 : Below w3.heap.size w3 w4) (v0 v1 v2 : Value) :
    KeptBut base b w (((w4.setCell ⟨b, 2, none⟩ v0).setCell ⟨b, 3, none⟩ v1).setCell ⟨b, 4, none⟩ v2) := by
  have k1 : KeptBut base b w w1.drew := (KeptBut.of_below (h1.mono hbw)).drew
  have e1 := h1.size
  have k3 := k1.grown hg (by show base ≤ w1.heap.size; omega) (fun k e => (ho.lt k e).1)
  have e3 := hg.size
  have k4 := k3.grown (grown_of_below h4) (by have : w1.drew.heap.size = w1.heap.size := rfl; omega) (fun k e => by cases e)
  exact ((k4.set _ _).set _ _).set _ _

set_option maxRecDepth 100000 in
set_option maxHeartbeats 4000000 in
theorem takeB_any (base b : Nat) (ix tm : Int) (x : Option Addr) (n z : Nat) (xs : List Value) (vm vr : Value) (u : Nat → Value) (off sz : Int) (pa : Option Addr) (pn pc : Nat) (ys : List Value) (vm1 vr1 : Value) (w : World)
    (hs : SnapAt w b ix tm (.slice x n z) vm vr) (hown : w.ownsRow base 5 1 (.slice x n z) n xs) (hbb : b < base) (hbw : base ≤ w.heap.size) (hoff : off = n) (hn0 : 0 < n) (hp : Piece w pa pn pc ys) (hnp : n + pn ≤ 1048576) :
    Calls Try.prog 33 #[.pointer (some ⟨b, 0, none⟩), .agg (msg u ix tm off sz pa pn pc vm1 vr1)] w (TakeBEnd base b ix tm n pn xs ys vm vr w) := by
  subst hoff
  have hz0 : ((n : Int) == 0) = false := by rw [beq_eq_false_iff_ne]; omega
  have hwr := wrap_small (n := n) (by omega)
  have hlt := hs.lt
  have HSn : Hid _ := hs
  have HOw : Hid _ := hown
  have HP : Hid _ := hp
  clear hp hown hs
  go_enter Try.func33, Try.ntmps33
  go_wp2
  obtain ⟨W, hW⟩ : ∃ W, w.alloc (.cells (msg u ix tm n sz pa pn pc vm1 vr1) 59) = W := ⟨_, rfl⟩
  have hB : Below w.heap.size w W := by rw [← hW]; exact (Below.refl _ _).alloc (Nat.le_refl _) _
  have hWz : W.heap.size = w.heap.size + 1 := by rw [← hW]; simp
  have HS0 : Hid (Below w.heap.size w W.drew ∧ W.drew.cell? ⟨b, 0, none⟩ = some (.int .u64 ix) ∧ W.drew.cell? ⟨b, 1, none⟩ = some (.int .u64 tm) ∧ W.drew.cell? ⟨b, 2, none⟩ = some (.slice x n z) ∧ W.drew.cell? ⟨b, 3, none⟩ = some .nilFunc ∧ W.drew.cell? ⟨b, 4, none⟩ = some (.int .i64 0) ∧ W.drew.cell? ⟨w.heap.size, 4, none⟩ = some (.int .u64 ix) ∧ W.drew.cell? ⟨w.heap.size, 5, none⟩ = some (.int .u64 tm) ∧ W.drew.cell? ⟨w.heap.size, 15, none⟩ = some (.int .u64 (n : Int)) ∧ W.drew.cell? ⟨w.heap.size, 17, none⟩ = some (.slice pa pn pc)) := by
    obtain ⟨e0, e1, e2, e3, e4, _, _⟩ := (SnapAt.later HSn.out hB).cells
    refine ⟨hB.drew, e0, e1, e2, e3, e4, ?_⟩
    rw [← hW]
    exact ⟨by simp, by simp, by simp, by simp⟩
  rw [hW]
  clear hW
  have HK : Hid (∀ (X Y : World), (Below w.heap.size w X ∧ X.cell? ⟨b, 0, none⟩ = some (.int .u64 ix) ∧ X.cell? ⟨b, 1, none⟩ = some (.int .u64 tm) ∧ X.cell? ⟨b, 2, none⟩ = some (.slice x n z) ∧ X.cell? ⟨b, 3, none⟩ = some .nilFunc ∧ X.cell? ⟨b, 4, none⟩ = some (.int .i64 0) ∧ X.cell? ⟨w.heap.size, 4, none⟩ = some (.int .u64 ix) ∧ X.cell? ⟨w.heap.size, 5, none⟩ = some (.int .u64 tm) ∧ X.cell? ⟨w.heap.size, 15, none⟩ = some (.int .u64 (n : Int)) ∧ X.cell? ⟨w.heap.size, 17, none⟩ = some (.slice pa pn pc)) → Below X.heap.size X Y → (Below w.heap.size w Y ∧ Y.cell? ⟨b, 0, none⟩ = some (.int .u64 ix) ∧ Y.cell? ⟨b, 1, none⟩ = some (.int .u64 tm) ∧ Y.cell? ⟨b, 2, none⟩ = some (.slice x n z) ∧ Y.cell? ⟨b, 3, none⟩ = some .nilFunc ∧ Y.cell? ⟨b, 4, none⟩ = some (.int .i64 0) ∧ Y.cell? ⟨w.heap.size, 4, none⟩ = some (.int .u64 ix) ∧ Y.cell? ⟨w.heap.size, 5, none⟩ = some (.int .u64 tm) ∧ Y.cell? ⟨w.heap.size, 15, none⟩ = some (.int .u64 (n : Int)) ∧ Y.cell? ⟨w.heap.size, 17, none⟩ = some (.slice pa pn pc))) := by
    rintro X Y ⟨s0, s1, s2, s3, s4, s5, s6, s7, s8, s9⟩ hXY
    exact ⟨s0.trans (hXY.mono s0.size), keepc s1 hXY, keepc s2 hXY, keepc s3 hXY, keepc s4 hXY, keepc s5 hXY, keepc s6 hXY, keepc s7 hXY, keepc s8 hXY, keepc s9 hXY⟩
  have HZ : Hid _ := hWz
  clear hB hWz
  go_region_held3 (fun w' => Below w.heap.size w w' ∧ w'.cell? ⟨b, 0, none⟩ = some (.int .u64 ix) ∧ w'.cell? ⟨b, 1, none⟩ = some (.int .u64 tm) ∧ w'.cell? ⟨b, 2, none⟩ = some (.slice x n z) ∧ w'.cell? ⟨b, 3, none⟩ = some .nilFunc ∧ w'.cell? ⟨b, 4, none⟩ = some (.int .i64 0) ∧ w'.cell? ⟨w.heap.size, 4, none⟩ = some (.int .u64 ix) ∧ w'.cell? ⟨w.heap.size, 5, none⟩ = some (.int .u64 tm) ∧ w'.cell? ⟨w.heap.size, 15, none⟩ = some (.int .u64 (n : Int)) ∧ w'.cell? ⟨w.heap.size, 17, none⟩ = some (.slice pa pn pc))
    (first | (with_reducible assumption) | (with_reducible exact HS0.out) | (with_reducible exact HK.out _ _ (by with_reducible assumption) (by with_reducible assumption)))
    (first
      | (go_at_call 34; refine Calls.mono (size_any _ _ _ _ (by omega)) ?_; rintro e w1 ⟨rfl, hB1⟩))
  go_wp2
  have hS5 := ‹Below w.heap.size w _ ∧ _›
  have hSn1 := SnapAt.later HSn.out hS5.1
  have HOd : Hid (w1.drew.ownsRow base 5 1 (.slice x n z) n xs) := owns_below HOw.out hS5.1.drew
  have HPd : Hid (Piece w1.drew pa pn pc ys) := by
    rcases HP.out with h | ⟨ad, h1, h2, h3, h4⟩
    · exact .inl h
    · exact .inr ⟨ad, h1, h2, fun j u' hu => (hS5.1.cell (World.block_lt_of_cell? _ _ (h3 j u' hu))).trans (h3 j u' hu), h4⟩
  obtain ⟨_, _, c2, c3, c4, _, _⟩ := hSn1.cells
  have c17 := hS5.2.2.2.2.2.2.2.2.2
  have HB5 : Hid _ := hS5.1
  have HSn1 : Hid _ := hSn1
  clear hS5 hSn1
  go_region_law (first
      | (refine step_append_piece rfl _ _ rfl base _ n xs rfl HOd.out pa pn pc ys rfl HPd.out hnp (by have := HB5.out.size; show base ≤ w1.heap.size; omega) ?_; intro x1 z1 w3 hown3 hgrow3; have hsn3 := hgrow_snap HSn1.out HOd.out hbb hgrow3; obtain ⟨_, _, d2, d3, d4, _, _⟩ := hsn3.cells)
      | (go_simp; go_at_call 32; go_must (refine Calls.mono (snapbytes_any _ _ _ _) ?_; rintro e w4 ⟨rfl, hB4⟩; have hsn4 := SnapAt.later hsn3 hB4; obtain ⟨_, _, e2, e3, e4, _, _⟩ := hsn4.cells; obtain ⟨f4, hf4⟩ := hsn4.row; have q2 := hf4.frozen 2; have q3 := hf4.frozen 3; have q4 := hf4.frozen 4)))
  all_goals
    go_wp2
    go_ret
    exact ⟨rfl, takeB_kept hbw HB5.out HOd.out hgrow3 hB4 _ _ _, x1, z1, snap_set3 hsn4, ownsRow_setCell_below (ownsRow_setCell_below (ownsRow_setCell_below (owns_below hown3 hB4) hbb _) hbb _) hbb _⟩

/-- Any other piece is refused; nothing that lay has turned. -/
def TakeCEnd (w : World) (e : Ending) (w' : World) : Prop := e = .returned (.bool false) ∧ Below w.heap.size w w'

set_option maxRecDepth 100000 in
set_option maxHeartbeats 4000000 in
theorem takeC_any (b : Nat) (ix tm : Int) (x : Option Addr) (n z : Nat) (vm vr : Value) (u : Nat → Value) (li lt off sz : Int) (pa : Option Addr) (pn pc : Nat) (vm1 vr1 : Value) (w : World)
    (hs : SnapAt w b ix tm (.slice x n z) vm vr) (hoff : off ≠ 0) (hne : ix ≠ li ∨ tm ≠ lt ∨ off ≠ n) (hn : n ≤ 1048576) :
    Calls Try.prog 33 #[.pointer (some ⟨b, 0, none⟩), .agg (msg u li lt off sz pa pn pc vm1 vr1)] w (TakeCEnd w) := by
  have hz0 : (off == 0) = false := by rw [beq_eq_false_iff_ne]; exact hoff
  have hwr := wrap_small hn
  have hlt := hs.lt
  have HSn : Hid _ := hs
  clear hs
  obtain ⟨W, hW⟩ : ∃ W, w.alloc (.cells (msg u li lt off sz pa pn pc vm1 vr1) 59) = W := ⟨_, rfl⟩
  have hB : Below w.heap.size w W := by rw [← hW]; exact (Below.refl _ _).alloc (Nat.le_refl _) _
  have m4 : W.cell? ⟨w.heap.size, 4, none⟩ = some (.int .u64 li) := by rw [← hW]; simp
  have m5 : W.cell? ⟨w.heap.size, 5, none⟩ = some (.int .u64 lt) := by rw [← hW]; simp
  have m15 : W.cell? ⟨w.heap.size, 15, none⟩ = some (.int .u64 off) := by rw [← hW]; simp
  obtain ⟨e0, e1, e2, e3, e4, _, _⟩ := (SnapAt.later HSn.out hB).cells
  have HW : Hid _ := hW
  have HB : Hid _ := hB
  clear hW hB
  by_cases h1 : ix = li
  · subst h1
    by_cases h2 : tm = lt
    · subst h2
      have h3 : off ≠ n := by omega
      have h3' : (off == (n : Int)) = false := by rw [beq_eq_false_iff_ne]; exact h3
      go_enter Try.func33, Try.ntmps33
      go_wp2
      rw [HW.out]
      have HK : Hid (∀ (X Y : World), (Below w.heap.size w X ∧ X.cell? ⟨b, 0, none⟩ = some (.int .u64 ix) ∧ X.cell? ⟨b, 1, none⟩ = some (.int .u64 tm) ∧ X.cell? ⟨b, 2, none⟩ = some (.slice x n z) ∧ X.cell? ⟨b, 3, none⟩ = some .nilFunc ∧ X.cell? ⟨b, 4, none⟩ = some (.int .i64 0) ∧ X.cell? ⟨w.heap.size, 4, none⟩ = some (.int .u64 ix) ∧ X.cell? ⟨w.heap.size, 5, none⟩ = some (.int .u64 tm) ∧ X.cell? ⟨w.heap.size, 15, none⟩ = some (.int .u64 off)) → Below X.heap.size X Y → (Below w.heap.size w Y ∧ Y.cell? ⟨b, 0, none⟩ = some (.int .u64 ix) ∧ Y.cell? ⟨b, 1, none⟩ = some (.int .u64 tm) ∧ Y.cell? ⟨b, 2, none⟩ = some (.slice x n z) ∧ Y.cell? ⟨b, 3, none⟩ = some .nilFunc ∧ Y.cell? ⟨b, 4, none⟩ = some (.int .i64 0) ∧ Y.cell? ⟨w.heap.size, 4, none⟩ = some (.int .u64 ix) ∧ Y.cell? ⟨w.heap.size, 5, none⟩ = some (.int .u64 tm) ∧ Y.cell? ⟨w.heap.size, 15, none⟩ = some (.int .u64 off))) := by
        rintro X Y ⟨s0, s1, s2, s3, s4, s5, s6, s7, s8⟩ hXY
        exact ⟨s0.trans (hXY.mono s0.size), keepc s1 hXY, keepc s2 hXY, keepc s3 hXY, keepc s4 hXY, keepc s5 hXY, keepc s6 hXY, keepc s7 hXY, keepc s8 hXY⟩
      have HS0 : Hid (Below w.heap.size w W.drew ∧ W.drew.cell? ⟨b, 0, none⟩ = some (.int .u64 ix) ∧ W.drew.cell? ⟨b, 1, none⟩ = some (.int .u64 tm) ∧ W.drew.cell? ⟨b, 2, none⟩ = some (.slice x n z) ∧ W.drew.cell? ⟨b, 3, none⟩ = some .nilFunc ∧ W.drew.cell? ⟨b, 4, none⟩ = some (.int .i64 0) ∧ W.drew.cell? ⟨w.heap.size, 4, none⟩ = some (.int .u64 ix) ∧ W.drew.cell? ⟨w.heap.size, 5, none⟩ = some (.int .u64 tm) ∧ W.drew.cell? ⟨w.heap.size, 15, none⟩ = some (.int .u64 off)) := ⟨HB.out.drew, e0, e1, e2, e3, e4, m4, m5, m15⟩
      go_region_held3 (fun w' => Below w.heap.size w w' ∧ w'.cell? ⟨b, 0, none⟩ = some (.int .u64 ix) ∧ w'.cell? ⟨b, 1, none⟩ = some (.int .u64 tm) ∧ w'.cell? ⟨b, 2, none⟩ = some (.slice x n z) ∧ w'.cell? ⟨b, 3, none⟩ = some .nilFunc ∧ w'.cell? ⟨b, 4, none⟩ = some (.int .i64 0) ∧ w'.cell? ⟨w.heap.size, 4, none⟩ = some (.int .u64 ix) ∧ w'.cell? ⟨w.heap.size, 5, none⟩ = some (.int .u64 tm) ∧ w'.cell? ⟨w.heap.size, 15, none⟩ = some (.int .u64 off))
        (first | (with_reducible assumption) | (with_reducible exact HS0.out) | (with_reducible exact HK.out _ _ (by with_reducible assumption) (by with_reducible assumption)))
        (first
          | (go_at_call 34; refine Calls.mono (size_any _ _ _ _ hn) ?_; rintro e w1 ⟨rfl, hB1⟩))
      go_wp2
      have hfin := ‹Below w.heap.size w _ ∧ _›
      go_ret
      exact ⟨rfl, hfin.1⟩
    · have h2' : (tm == lt) = false := by rw [beq_eq_false_iff_ne]; exact h2
      go_enter Try.func33, Try.ntmps33
      go_wp2
      rw [HW.out]
      go_quiet (fail)
      go_wp2
      go_ret
      exact ⟨rfl, bdrew HB.out _⟩
  · have h1' : (ix == li) = false := by rw [beq_eq_false_iff_ne]; exact h1
    go_enter Try.func33, Try.ntmps33
    go_wp2
    rw [HW.out]
    go_quiet (fail)
    go_wp2
    go_ret
    exact ⟨rfl, bdrew HB.out _⟩

end Go.Proofs.Qxb6605768a

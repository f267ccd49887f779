/-
  Seat b6605768a. take (33) and ZZsnapshotTake (19) where a piece is appended, the data's own block lying anywhere.
-/
import Derived.Test.Qxb6605768aMsg
import Derived.Deep.RegionLaw
import Derived.Deep.DeepMust
namespace Go.Proofs.Qxb6605768a
open Go.RowKit
set_option linter.unusedVariables false

/-- Every block but b and the one of row lies as it lay. -/
structure Kept2 (b : Nat) (row : Option Nat) (w w' : World) : Prop where
  os : w'.os = w.os
  tape : w'.tape = w.tape
  output : w'.output = w.output
  size : w.heap.size ≤ w'.heap.size
  block : ∀ k, k < w.heap.size → k ≠ b → some k ≠ row → w'.heap[k]? = w.heap[k]?

theorem Kept2.after {b : Nat} {row : Option Nat} {w X Y : World} (k : Kept2 b row X Y) (h : Below w.heap.size w X) : Kept2 b row w Y :=
  ⟨k.os.trans h.os, k.tape.trans h.tape, k.output.trans h.output, Nat.le_trans h.size k.size, fun i hi h1 h2 => (k.block i (by have := h.size; omega) h1 h2).trans (h.block i hi)⟩

def TakeDEnd (base b : Nat) (ix tm : Int) (n pn : Nat) (xs ys : List Value) (vm vr : Value) (row : Option Nat) (w : World) (e : Ending) (w' : World) : Prop :=
  e = .returned (.bool true) ∧ Kept2 b row w w' ∧ ∃ x z, SnapAt w' b ix tm (.slice x (n + pn) z) vm vr ∧ w'.ownsRow base 5 1 (.slice x (n + pn) z) (n + pn) (xs ++ ys)

/-- A block of a snapshot's type. -/
def Row53 (w : World) (b : Nat) : Prop := ∃ cs, w.heap[b]? = some (.cells cs 53 (0, 0))
theorem Row53.set {w : World} {b : Nat} (h : Row53 w b) (p : Nat) (v : Value) : Row53 (w.setCell ⟨b, p, none⟩ v) b := by
  obtain ⟨cs, h⟩ := h
  exact ⟨cs.set! p v, by simp [World.setCell, Array.getElem?_modify, h]⟩
theorem SnapAt.row53 {w : World} {b : Nat} {ix tm : Int} {vd vm vr : Value} (h : SnapAt w b ix tm vd vm vr) : Row53 w b := ⟨_, h⟩

theorem owns_ne {w : World} {base b : Nat} {v : Value} {n : Nat} {xs : List Value} (h : w.ownsRow base 5 1 v n xs) (hs : Row53 w b) : some b ≠ v.ownBlock := by
  obtain ⟨cs, hs⟩ := hs
  rcases h.2 with ⟨rfl, _⟩ | ⟨g, cap, cur, rfl, _, hg, _⟩
  · simp [Value.ownBlock]
  · intro e
    have e2 : b = g := by simpa [Value.ownBlock] using e
    subst e2
    rw [hs] at hg
    simp at hg
theorem owns_set {w : World} {base b : Nat} {v : Value} {n : Nat} {xs : List Value} (h : w.ownsRow base 5 1 v n xs) (hs : Row53 w b) (p : Nat) (u : Value) : (w.setCell ⟨b, p, none⟩ u).ownsRow base 5 1 v n xs := by
  have hne := owns_ne h hs
  refine ⟨h.1, ?_⟩
  rcases h.2 with h | ⟨g, cap, cur, rfl, h2, h3, h4⟩
  · exact .inl h
  · refine .inr ⟨g, cap, cur, rfl, h2, (Below.heap_setCell _ _ _ _ ?_).trans h3, h4⟩
    rintro rfl
    exact hne (by simp [Value.ownBlock])
theorem owns_set3 {w : World} {base b : Nat} {v : Value} {n : Nat} {xs : List Value} {ix tm : Int} {vd vm vr : Value} (h : w.ownsRow base 5 1 v n xs) (hs : SnapAt w b ix tm vd vm vr) (v0 v1 v2 : Value) :
    (((w.setCell ⟨b, 2, none⟩ v0).setCell ⟨b, 3, none⟩ v1).setCell ⟨b, 4, none⟩ v2).ownsRow base 5 1 v n xs :=
  owns_set (owns_set (owns_set h hs.row53 _ _) (hs.row53.set _ _) _ _) ((hs.row53.set _ _).set _ _) _ _

theorem hgrow_snap2 {w w' : World} {b base : Nat} {ix tm : Int} {vd vm vr v : Value} {n : Nat} {xs : List Value} (h : SnapAt w b ix tm vd vm vr) (ho : w.drew.ownsRow base 5 1 v n xs) (hg : w.drew.grownBy w' v.ownBlock) : SnapAt w' b ix tm vd vm vr :=
  (hg.block b h.lt (owns_ne ho ⟨_, h⟩)).trans h

theorem takeD_kept {w w1 w3 w4 : World} {b base : Nat} {v : Value} {n : Nat} {xs : List Value} (h1 : Below w.heap.size w w1) (ho : w1.drew.ownsRow base 5 1 v n xs) (hg : w1.drew.grownBy w3 v.ownBlock) (h4 : Below w3.heap.size w3 w4) (v0 v1 v2 : Value) :
    Kept2 b v.ownBlock w (((w4.setCell ⟨b, 2, none⟩ v0).setCell ⟨b, 3, none⟩ v1).setCell ⟨b, 4, none⟩ v2) := by
  have e1 := h1.size
  have e3 := hg.size
  have e4 := h4.size
  have e5 : w1.drew.heap.size = w1.heap.size := rfl
  refine ⟨h4.os.trans (hg.os.trans h1.os), h4.tape.trans (hg.tape.trans h1.tape), h4.output.trans (hg.output.trans h1.output), by simp [World.setCell]; omega, fun k hk hb hr => ?_⟩
  rw [Below.heap_setCell _ _ _ _ hb, Below.heap_setCell _ _ _ _ hb, Below.heap_setCell _ _ _ _ hb, h4.block k (by omega), hg.block k (by omega) hr]
  exact h1.block k hk

set_option maxRecDepth 100000 in
set_option maxHeartbeats 4000000 in
theorem takeD_any (base b : Nat) (ix tm : Int) (x : Option Addr) (n z : Nat) (xs : List Value) (vm vr : Value) (u : Nat → Value) (off sz : Int) (pa : Option Addr) (pn pc : Nat) (ys : List Value) (vm1 vr1 : Value) (w : World)
    (hs : SnapAt w b ix tm (.slice x n z) vm vr) (hown : w.ownsRow base 5 1 (.slice x n z) n xs) (hbw : base ≤ w.heap.size) (hoff : off = n) (hn0 : 0 < n) (hp : Piece w pa pn pc ys) (hnp : n + pn ≤ 1048576) :
    Calls Try.prog 33 #[.pointer (some ⟨b, 0, none⟩), .agg (msg u ix tm off sz pa pn pc vm1 vr1)] w (TakeDEnd base b ix tm n pn xs ys vm vr (Value.slice x n z).ownBlock w) := by
  subst hoff
  have hz0 : ((n : Int) == 0) = false := by rw [beq_eq_false_iff_ne]; omega
  have hwr := wrap_small (n := n) (by omega)
  have hlt := hs.lt
  have HSn : Hid _ := hs
  have HOw : Hid _ := hown
  have HP : Hid _ := hp
  clear hp hown hs
  go_enter Try.func33, Try.ntmps33
  go_wp2
  obtain ⟨W, hW⟩ : ∃ W, w.alloc (.cells (msg u ix tm n sz pa pn pc vm1 vr1) 59) = W := ⟨_, rfl⟩
  have hB : Below w.heap.size w W := by rw [← hW]; exact (Below.refl _ _).alloc (Nat.le_refl _) _
  have hWz : W.heap.size = w.heap.size + 1 := by rw [← hW]; simp
  have HS0 : Hid (Below w.heap.size w W.drew ∧ W.drew.cell? ⟨b, 0, none⟩ = some (.int .u64 ix) ∧ W.drew.cell? ⟨b, 1, none⟩ = some (.int .u64 tm) ∧ W.drew.cell? ⟨b, 2, none⟩ = some (.slice x n z) ∧ W.drew.cell? ⟨b, 3, none⟩ = some .nilFunc ∧ W.drew.cell? ⟨b, 4, none⟩ = some (.int .i64 0) ∧ W.drew.cell? ⟨w.heap.size, 4, none⟩ = some (.int .u64 ix) ∧ W.drew.cell? ⟨w.heap.size, 5, none⟩ = some (.int .u64 tm) ∧ W.drew.cell? ⟨w.heap.size, 15, none⟩ = some (.int .u64 (n : Int)) ∧ W.drew.cell? ⟨w.heap.size, 17, none⟩ = some (.slice pa pn pc)) := by
    obtain ⟨e0, e1, e2, e3, e4, _, _⟩ := (SnapAt.later HSn.out hB).cells
    refine ⟨hB.drew, e0, e1, e2, e3, e4, ?_⟩
    rw [← hW]
    exact ⟨by simp, by simp, by simp, by simp⟩
  rw [hW]
  clear hW
  have HK : Hid (∀ (X Y : World), (Below w.heap.size w X ∧ X.cell? ⟨b, 0, none⟩ = some (.int .u64 ix) ∧ X.cell? ⟨b, 1, none⟩ = some (.int .u64 tm) ∧ X.cell? ⟨b, 2, none⟩ = some (.slice x n z) ∧ X.cell? ⟨b, 3, none⟩ = some .nilFunc ∧ X.cell? ⟨b, 4, none⟩ = some (.int .i64 0) ∧ X.cell? ⟨w.heap.size, 4, none⟩ = some (.int .u64 ix) ∧ X.cell? ⟨w.heap.size, 5, none⟩ = some (.int .u64 tm) ∧ X.cell? ⟨w.heap.size, 15, none⟩ = some (.int .u64 (n : Int)) ∧ X.cell? ⟨w.heap.size, 17, none⟩ = some (.slice pa pn pc)) → Below X.heap.size X Y → (Below w.heap.size w Y ∧ Y.cell? ⟨b, 0, none⟩ = some (.int .u64 ix) ∧ Y.cell? ⟨b, 1, none⟩ = some (.int .u64 tm) ∧ Y.cell? ⟨b, 2, none⟩ = some (.slice x n z) ∧ Y.cell? ⟨b, 3, none⟩ = some .nilFunc ∧ Y.cell? ⟨b, 4, none⟩ = some (.int .i64 0) ∧ Y.cell? ⟨w.heap.size, 4, none⟩ = some (.int .u64 ix) ∧ Y.cell? ⟨w.heap.size, 5, none⟩ = some (.int .u64 tm) ∧ Y.cell? ⟨w.heap.size, 15, none⟩ = some (.int .u64 (n : Int)) ∧ Y.cell? ⟨w.heap.size, 17, none⟩ = some (.slice pa pn pc))) := by
    rintro X Y ⟨s0, s1, s2, s3, s4, s5, s6, s7, s8, s9⟩ hXY
    exact ⟨s0.trans (hXY.mono s0.size), keepc s1 hXY, keepc s2 hXY, keepc s3 hXY, keepc s4 hXY, keepc s5 hXY, keepc s6 hXY, keepc s7 hXY, keepc s8 hXY, keepc s9 hXY⟩
  have HZ : Hid _ := hWz
  clear hB hWz
  go_region_held3 (fun w' => Below w.heap.size w w' ∧ w'.cell? ⟨b, 0, none⟩ = some (.int .u64 ix) ∧ w'.cell? ⟨b, 1, none⟩ = some (.int .u64 tm) ∧ w'.cell? ⟨b, 2, none⟩ = some (.slice x n z) ∧ w'.cell? ⟨b, 3, none⟩ = some .nilFunc ∧ w'.cell? ⟨b, 4, none⟩ = some (.int .i64 0) ∧ w'.cell? ⟨w.heap.size, 4, none⟩ = some (.int .u64 ix) ∧ w'.cell? ⟨w.heap.size, 5, none⟩ = some (.int .u64 tm) ∧ w'.cell? ⟨w.heap.size, 15, none⟩ = some (.int .u64 (n : Int)) ∧ w'.cell? ⟨w.heap.size, 17, none⟩ = some (.slice pa pn pc))
    (first | (with_reducible assumption) | (with_reducible exact HS0.out) | (with_reducible exact HK.out _ _ (by with_reducible assumption) (by with_reducible assumption)))
    (first
      | (go_at_call 34; refine Calls.mono (size_any _ _ _ _ (by omega)) ?_; rintro e w1 ⟨rfl, hB1⟩))
  go_wp2
  have hS5 := ‹Below w.heap.size w _ ∧ _›
  have hSn1 := SnapAt.later HSn.out hS5.1
  have HOd : Hid (w1.drew.ownsRow base 5 1 (.slice x n z) n xs) := owns_below HOw.out hS5.1.drew
  have HPd : Hid (Piece w1.drew pa pn pc ys) := by
    rcases HP.out with h | ⟨ad, h1, h2, h3, h4⟩
    · exact .inl h
    · exact .inr ⟨ad, h1, h2, fun j u' hu => (hS5.1.cell (World.block_lt_of_cell? _ _ (h3 j u' hu))).trans (h3 j u' hu), h4⟩
  obtain ⟨_, _, c2, c3, c4, _, _⟩ := hSn1.cells
  have c17 := hS5.2.2.2.2.2.2.2.2.2
  have HB5 : Hid _ := hS5.1
  have HSn1 : Hid _ := hSn1
  clear hS5 hSn1
  go_region_law (first
      | (refine step_append_piece rfl _ _ rfl base _ n xs rfl HOd.out pa pn pc ys rfl HPd.out hnp (by have := HB5.out.size; show base ≤ w1.heap.size; omega) ?_; intro x1 z1 w3 hown3 hgrow3; have hsn3 := hgrow_snap2 HSn1.out HOd.out hgrow3; obtain ⟨_, _, d2, d3, d4, _, _⟩ := hsn3.cells)
      | (go_simp; go_at_call 32; go_must (refine Calls.mono (snapbytes_any _ _ _ _) ?_; rintro e w4 ⟨rfl, hB4⟩; have hsn4 := SnapAt.later hsn3 hB4; obtain ⟨_, _, e2, e3, e4, _, _⟩ := hsn4.cells; obtain ⟨f4, hf4⟩ := hsn4.row; have q2 := hf4.frozen 2; have q3 := hf4.frozen 3; have q4 := hf4.frozen 4)))
  all_goals
    go_wp2
    go_ret
    exact ⟨rfl, takeD_kept HB5.out HOd.out hgrow3 hB4 _ _ _, x1, z1, snap_set3 hsn4, owns_set3 (owns_below hown3 hB4) hsn4 _ _ _⟩

set_option maxRecDepth 100000 in
set_option maxHeartbeats 1000000 in
theorem zzD_any (base b : Nat) (ix tm : Int) (x : Option Addr) (n z : Nat) (xs : List Value) (vm vr : Value) (u : Nat → Value) (off sz : Int) (pa : Option Addr) (pn pc : Nat) (ys : List Value) (vm1 vr1 : Value) (w : World)
    (hs : SnapAt w b ix tm (.slice x n z) vm vr) (hown : w.ownsRow base 5 1 (.slice x n z) n xs) (hbw : base ≤ w.heap.size) (hoff : off = n) (hn0 : 0 < n) (hp : Piece w pa pn pc ys) (hnp : n + pn ≤ 1048576) :
    Calls Try.prog 19 #[.pointer (some ⟨b, 0, none⟩), .agg (msg u ix tm off sz pa pn pc vm1 vr1)] w (TakeDEnd base b ix tm n pn xs ys vm vr (Value.slice x n z).ownBlock w) := by
  have HS : Hid _ := hs
  have HP : Hid _ := hp
  have HO : Hid _ := hown
  have HF : Hid _ := hoff
  clear hs hp hown hoff
  go_enter Try.func19, Try.ntmps19
  go_wp2_with (refine wpList_load_mid rfl 59 _ rfl w.heap.size 0 rfl [u 0, u 1, u 2, u 3, .int .u64 ix, .int .u64 tm, u 6, u 7, u 8, u 9, u 10, u 11, u 12, u 13, u 14, .int .u64 off, .int .u64 sz, .slice pa pn pc, u 18, vm1, vr1, u 21, u 22] _ (alloc_range w _ 59) Try.underlying59 rfl size59 ?_)
  have hB : Below w.heap.size w (w.alloc (.cells (msg u ix tm off sz pa pn pc vm1 vr1) 59)) := (Below.refl _ _).alloc (Nat.le_refl _) _
  refine (takeD_any base b ix tm x n z xs vm vr u off sz pa pn pc ys vm1 vr1 _ (SnapAt.later HS.out hB) (owns_below HO.out hB) (by simp; omega) HF.out hn0 (Piece.later HP.out hB) hnp).mono ?_
  rintro e w' ⟨rfl, hk, x', z', h1, h2⟩
  go_wp2
  go_ret
  exact ⟨rfl, hk.after hB, x', z', h1, h2⟩

theorem MemAt.ne_row {w : World} {b o g n : Nat} {m : Mem} {bs : Nat → Int} (h : MemAt w b o m) (hr : w.rowIs g 5 n (fun j => .int .u8 (bs j))) : b ≠ g := by
  rintro rfl
  obtain ⟨h1, _⟩ := h
  by_cases ho : o < n
  · rw [hr.cell ho] at h1
    cases h1
  · obtain ⟨c, hb, hn, _⟩ := hr
    have hb' : w.heap[b]? = some (.cells c 5 (0, 0)) := hb
    simp only [World.cell?, hb'] at h1
    have hx := (Array.getElem?_eq_some_iff.1 (by simpa using h1)).1
    omega
theorem MemAt.block {w w' : World} {b o : Nat} {m : Mem} (h : MemAt w b o m) (he : w'.heap[b]? = w.heap[b]?) : MemAt w' b o m := by
  obtain ⟨h1, h2, h3, h4, h5, h6⟩ := h
  have hc : ∀ j, w'.cell? ⟨b, j, none⟩ = w.cell? ⟨b, j, none⟩ := fun j => by simp only [World.cell?, he]
  exact ⟨(hc _).trans h1, (hc _).trans h2, (hc _).trans h3, (hc _).trans h4, (hc _).trans h5, h6⟩
theorem MemAt.keep2 {w w' : World} {b o bS : Nat} {row : Option Nat} {m : Mem} (h : MemAt w b o m) (hne : b ≠ bS) (hr : some b ≠ row) (hb : Kept2 bS row w w') : MemAt w' b o m :=
  h.block (hb.block b (World.block_lt_of_cell? _ _ h.1) hne hr)
end Go.Proofs.Qxb6605768a

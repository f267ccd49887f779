/-
  Seat b6614303a. newPartition (23) of no needs.
-/
import Derived.Test.Qxb6614303aNew
import Derived.Handy
namespace Go.Proofs.Qxb6614303a
open Go.RowKit
set_option linter.unusedVariables false

/-- The partition of no slot: no run. -/
def New0End (w : World) (e : Ending) (w' : World) : Prop :=
  Below w.heap.size w w' ∧ ∃ pb, e = .returned (.pointer (some ⟨pb, 0, none⟩)) ∧ w'.cell? ⟨pb, 0, none⟩ = some (.slice none 0 0)

set_option maxRecDepth 100000 in
set_option maxHeartbeats 8000000 in
theorem new0_any (a0 : Option Addr) (nz : Nat) (w : World) : Calls Try.prog 23 #[.slice a0 0 nz] w (New0End w) := by
  have hmk := fun X : World => run_make_row' (P := Try.prog) 38 3 (.int .i64 0) 8 Try.underlying38 info3 rfl .i64 .i64 0 (by omega) (by omega) X
  replace hmk : ∀ X : World, (Instr.makeSlice 38 (.int .i64 0) (.int .i64 0)).run Try.prog X = .ok (.slice (some ⟨X.heap.size, 0, none⟩) 0 0) (X.alloc (.cells (madeCells #[.int .i64 0] 0) 3)) := hmk
  go_enter Try.func23, Try.ntmps23
  go_wp2_with fail
  have hB0 : Below w.heap.size w (w.alloc (.cells #[.slice none 0 0, .slice none 0 0, .slice none 0 0, .slice none 0 0, .slice none 0 0, .slice none 0 0, .bool false, .slice none 0 0, .slice none 0 0, .slice none 0 0, .bool true, .slice none 0 0] 72)) := (Below.refl _ _).alloc (Nat.le_refl _) _
  have hp0 : PB (w.alloc (.cells #[.slice none 0 0, .slice none 0 0, .slice none 0 0, .slice none 0 0, .slice none 0 0, .slice none 0 0, .bool false, .slice none 0 0, .slice none 0 0, .slice none 0 0, .bool true, .slice none 0 0] 72)) w.heap.size (.slice none 0 0) (.slice none 0 0) (.slice none 0 0) (.slice none 0 0) := World.alloc_heap_new w _
  obtain ⟨W, hW⟩ : ∃ W, w.alloc (.cells #[.slice none 0 0, .slice none 0 0, .slice none 0 0, .slice none 0 0, .slice none 0 0, .slice none 0 0, .bool false, .slice none 0 0, .slice none 0 0, .slice none 0 0, .bool true, .slice none 0 0] 72) = W := ⟨_, rfl⟩
  rw [hW] at hB0 hp0 ⊢
  obtain ⟨pb, hpb⟩ : ∃ pb, w.heap.size = pb := ⟨_, rfl⟩
  have hpb1 : w.heap.size ≤ pb := by omega
  rw [hpb] at hp0 ⊢
  have HP0 := hid hp0
  have HB0 := hid hB0
  clear hW hpb hp0 hB0
  go_loopw [13] (fun iv wr => iv = .int .i64 0 ∧ wr = W) (fun _ _ => 0)
  case atStart => exact ⟨rfl, rfl⟩
  case round =>
    obtain ⟨rfl, rfl⟩ := hrel
    obtain ⟨c0, c1, c2, c3, cf, hplt⟩ := HP0.out.cells
    have cf1 := cf 1
    have hsz := HB0.out.size
    clear cf c2 c3
    go_wp2_with (first
      | (refine wpList_app2 (base := w.heap.size) (v := .slice none 0 0) (zs := []) (y := 0) (t := 2) (X := wr) rfl _ _ rfl rfl rfl (World.ownsRow_nil wr _ _ _) (by simp) (by omega) ?_; intro x2 z2 w2 ho2 hg2 hat2; have p2 : PB w2 pb (.slice none 0 0) (.slice none 0 0) (.slice none 0 0) (.slice none 0 0) := (hg2.out.block pb hplt (by simp [Value.ownBlock])).trans HP0.out; have P2 := hid p2; have B2 : Hid (Below w.heap.size w w2) := ⟨hg2.out.os.trans HB0.out.os, hg2.out.tape.trans HB0.out.tape, hg2.out.output.trans HB0.out.output, Nat.le_trans HB0.out.size hg2.out.size, fun q hq => (hg2.out.block q (by omega) (by simp [Value.ownBlock])).trans (HB0.out.block q hq)⟩; obtain ⟨d0, d1, d2, d3, df, dlt⟩ := p2.cells; have df1 := df 1; have df2 := df 2; have df3 := df 3; clear p2 df ho2 hg2 hat2)
      | fail)
    refine (Try.slices_Clone_int_nil 0 0 _).mono ?_
    rintro e w4 ⟨rfl, rfl⟩
    go_wp2_with fail
    refine (Try.slices_Sort_int_none none 0 _).mono ?_
    rintro e w5 ⟨rfl, rfl⟩
    go_wp2_with fail
    refine (Try.slices_Compact_int_empty none 0 _).mono ?_
    rintro e w6 ⟨rfl, rfl⟩
    go_wp2_with fail
    have hfin : Below w.heap.size w (((((w2.setCell ⟨pb, 1, none⟩ (.slice x2 1 z2)).setCell ⟨pb, 2, none⟩ (.slice none 0 0)).setCell ⟨pb, 2, none⟩ (.slice none 0 0)).setCell ⟨pb, 3, none⟩ (.slice (some ⟨w2.heap.size, 0, none⟩) 0 0)).alloc (.cells (madeCells #[.int .i64 0] 0) 3)) := by
      have h1 := (((B2.out.setCell (p := ⟨pb, 1, none⟩) (by show w.heap.size ≤ pb; omega) (.slice x2 1 z2)).setCell (p := ⟨pb, 2, none⟩) (by show w.heap.size ≤ pb; omega) (.slice none 0 0)).setCell (p := ⟨pb, 2, none⟩) (by show w.heap.size ≤ pb; omega) (.slice none 0 0)).setCell (p := ⟨pb, 3, none⟩) (by show w.heap.size ≤ pb; omega) (.slice (some ⟨w2.heap.size, 0, none⟩) 0 0)
      exact h1.trans (((Below.refl _ _).alloc (Nat.le_refl _) _).mono h1.size)
    have hcell : (((((w2.setCell ⟨pb, 1, none⟩ (.slice x2 1 z2)).setCell ⟨pb, 2, none⟩ (.slice none 0 0)).setCell ⟨pb, 2, none⟩ (.slice none 0 0)).setCell ⟨pb, 3, none⟩ (.slice (some ⟨w2.heap.size, 0, none⟩) 0 0)).alloc (.cells (madeCells #[.int .i64 0] 0) 3)).cell? ⟨pb, 0, none⟩ = some (.slice none 0 0) := by
      have hq : PB ((((w2.setCell ⟨pb, 1, none⟩ (.slice x2 1 z2)).setCell ⟨pb, 2, none⟩ (.slice none 0 0)).setCell ⟨pb, 2, none⟩ (.slice none 0 0)).setCell ⟨pb, 3, none⟩ (.slice (some ⟨w2.heap.size, 0, none⟩) 0 0)) pb (.slice none 0 0) (.slice x2 1 z2) (.slice none 0 0) (.slice (some ⟨w2.heap.size, 0, none⟩) 0 0) := (((P2.out.set1 _).set2 _).set2 _).set3 _
      exact (hq.later ((Below.refl _ _).alloc (Nat.le_refl _) _)).cells.1
    obtain ⟨W9, hW9⟩ : ∃ W9, ((((w2.setCell ⟨pb, 1, none⟩ (.slice x2 1 z2)).setCell ⟨pb, 2, none⟩ (.slice none 0 0)).setCell ⟨pb, 2, none⟩ (.slice none 0 0)).setCell ⟨pb, 3, none⟩ (.slice (some ⟨w2.heap.size, 0, none⟩) 0 0)).alloc (.cells (madeCells #[.int .i64 0] 0) 3) = W9 := ⟨_, rfl⟩
    rw [hW9] at hfin hcell ⊢
    have HF := hid hfin
    have HC := hid hcell
    clear hW9 hfin hcell
    go_loopw [96] (fun iv wr => iv = .int .i64 0 ∧ wr = W9) (fun _ _ => 0)
    case atStart => exact ⟨rfl, rfl⟩
    case round =>
      obtain ⟨rfl, rfl⟩ := hrel
      go_wp2
      go_ret
      exact ⟨HF.out, pb, rfl, HC.out⟩

end Go.Proofs.Qxb6614303a

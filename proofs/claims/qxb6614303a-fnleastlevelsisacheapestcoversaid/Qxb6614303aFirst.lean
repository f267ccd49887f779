/-
  Seat b6614303a. firstRow (27).
-/
import Derived.Test.Qxb6614303aPart
namespace Go.Proofs.Qxb6614303a
open Go.RowKit
set_option linter.unusedVariables false

/-- The largest need of the first j runs. -/
def lvl (lev : Nat → Int) : Nat → Int
  | 0 => 0
  | j + 1 => mx (lvl lev j) (lev j)
/-- The row of one segment. -/
def fr (lev bef : Nat → Int) : Nat → Int
  | 0 => 0
  | j + 1 => wrap64 (bef (j + 1) * lvl lev (j + 1))

/-- A new row of numbers has come back. -/
def RowEnd (n : Nat) (f : Nat → Int) (w : World) (e : Ending) (w' : World) : Prop :=
  Below w.heap.size w w' ∧ ∃ g, w.heap.size ≤ g ∧ e = .returned (.slice (some ⟨g, 0, none⟩) n n) ∧ w'.rowIs g 2 n (fun q => .int .i64 (f q))

set_option maxRecDepth 100000 in
set_option maxHeartbeats 8000000 in
theorem firstRow_any (b : Nat) (la lo ln lz : Nat) (lev : Nat → Int) (ba bo bn bz : Nat) (bef : Nat → Int) (w : World)
    (h0 : w.cell? ⟨b, 0, none⟩ = some (.slice (some ⟨la, lo, none⟩) ln lz)) (h1 : w.cell? ⟨b, 1, none⟩ = some (.slice (some ⟨ba, bo, none⟩) bn bz)) (hl : Xs w la lo ln lev) (hb : Xs w ba bo bn bef)
    (hlb : bn = ln + 1) (hbig : bn ≤ 1048576) :
    Calls Try.prog 27 #[.pointer (some ⟨b, 0, none⟩)] w (RowEnd bn (fr lev bef) w) := by
  have HL := hid hl
  have HB := hid hb
  have hlb1 : bn ≤ ln + 1 := by omega
  have hlb2 : ln + 1 ≤ bn := by omega
  clear hl hb hlb
  have hmk := fun X : World => run_make_row' (P := Try.prog) 22 2 (.int .i64 0) 8 Try.underlying22 info2 rfl .i64 .i64 bn (by omega) (by omega) X
  go_enter Try.func27, Try.ntmps27
  go_wp2_with fail
  clear hmk
  have hB0 : Below w.heap.size w (w.alloc (.cells (madeCells #[.int .i64 0] bn) 2)) := (Below.refl _ _).alloc (Nat.le_refl _) _
  have hrow0 : (w.alloc (.cells (madeCells #[.int .i64 0] bn) 2)).rowIs w.heap.size 2 bn (fun _ => .int .i64 0) := World.rowIs_made w _ _ _
  obtain ⟨W, hW⟩ : ∃ W, w.alloc (.cells (madeCells #[.int .i64 0] bn) 2) = W := ⟨_, rfl⟩
  rw [hW] at hB0 hrow0 ⊢
  obtain ⟨g, hg⟩ : ∃ g, w.heap.size = g := ⟨_, rfl⟩
  have hgl : w.heap.size ≤ g := by omega
  rw [hg] at hrow0 ⊢
  have HR0 := hid hrow0
  clear hW hg hrow0
  go_loopw [4, 5] (fun lv jv wr => ∃ (k : Nat), k + 1 ≤ bn ∧ lv = .int .i64 (lvl lev k) ∧ jv = .int .i64 ((k : Int) + 1) ∧ Hid (wr.rowIs g 2 bn (fun q => .int .i64 (if q ≤ k then fr lev bef q else 0))) ∧ Below w.heap.size w wr) (fun _ jv _ => bn - (intOf jv).toNat)
  case atStart => exact ⟨0, by omega, rfl, rfl, (World.rowIs.congr HR0.out (fun q hq => by split <;> rename_i h <;> simp at h ⊢ <;> (try (subst h; rfl)))), hB0⟩
  case round =>
    obtain ⟨k, hk, rfl, rfl, HR, hBw⟩ := hrel
    by_cases hlt : k + 1 < bn
    · have hkl : (k : Int) < (ln : Int) := by omega
      have hkb : (k : Int) + 1 < (bn : Int) := by omega
      have g0 := keepc h0 hBw
      have g1 := keepc h1 hBw
      have g2 := keepc (HL.out k (by omega)) hBw
      have g3 := keepc (HB.out (k + 1) (by omega)) hBw
      have c1 := HR.out.cell (i := k + 1) (by omega)
      have c2 := HR.out.frozen (k + 1)
      have HBW := hid hBw
      clear hBw
      by_cases hm : lvl lev k < lev k
      · have hlv : lvl lev (k + 1) = lev k := by rw [lvl, mx, if_pos hm]
        have HLV := hid hlv
        clear hlv
        go_wp2_with fail
        go_roundw
        case rel =>
          refine ⟨k + 1, by omega, by rw [HLV.out], by first | rfl | (push_cast; rfl), ?_, HBW.out.setCell (by show w.heap.size ≤ g; omega) _⟩
          refine World.rowIs.congr (World.rowIs.set HR.out (k + 1) _) (fun q hq => ?_)
          by_cases e : q = k + 1
          · rw [if_pos e, if_pos (by omega), e, fr, HLV.out]
          · rw [if_neg e]
            by_cases e2 : q ≤ k
            · rw [if_pos e2, if_pos (by omega)]
            · rw [if_neg e2, if_neg (by omega)]
        case measure => simp [intOf]; omega
      · have hlv : lvl lev (k + 1) = lvl lev k := by rw [lvl, mx, if_neg hm]
        have HLV := hid hlv
        clear hlv
        go_wp2_with fail
        go_roundw
        case rel =>
          refine ⟨k + 1, by omega, by rw [HLV.out], by first | rfl | (push_cast; rfl), ?_, HBW.out.setCell (by show w.heap.size ≤ g; omega) _⟩
          refine World.rowIs.congr (World.rowIs.set HR.out (k + 1) _) (fun q hq => ?_)
          by_cases e : q = k + 1
          · rw [if_pos e, if_pos (by omega), e, fr, HLV.out]
          · rw [if_neg e]
            by_cases e2 : q ≤ k
            · rw [if_pos e2, if_pos (by omega)]
            · rw [if_neg e2, if_neg (by omega)]
        case measure => simp [intOf]; omega
    · have hlt' : ¬ ((k : Int) + 1 < (bn : Int)) := by omega
      go_wp2
      go_ret
      refine ⟨hBw, g, hgl, rfl, ?_⟩
      exact World.rowIs.congr HR.out (fun q hq => by rw [if_pos (by omega)])

end Go.Proofs.Qxb6614303a

/-
  Seat b6614303a. split (30), firstRow (27).
-/
import Derived.Test.Qxb6614303aIns
import Derived.Deep.DeepCutAuto
namespace Go.Proofs.Qxb6614303a
open Go.RowKit
set_option linter.unusedVariables false

/-- Go's max. -/
def mx (a v : Int) : Int := if a < v then v else a
def scost (lev bef prev : Nat → Int) (j i : Nat) (lv : Int) : Int := wrap64 (prev i + wrap64 (wrap64 (bef j - bef i) * lv))
/-- split, a round a step, from cut k - 1 downwards. -/
def spl (lev bef prev : Nat → Int) (j : Nat) : Nat → Int → Int → Int → Int → Int × Int
  | 0, _, at', atL, _ => (at', atL)
  | i + 1, best, at', atL, lv =>
    if scost lev bef prev j i (mx lv (lev i)) < best then spl lev bef prev j i (scost lev bef prev j i (mx lv (lev i))) i (mx lv (lev i)) (mx lv (lev i))
    else spl lev bef prev j i best at' atL (mx lv (lev i))

def SplitEnd (r : Int × Int) (w : World) (e : Ending) (w' : World) : Prop := e = .returned (.tuple #[.int .i64 r.1, .int .i64 r.2]) ∧ Below w.heap.size w w'
theorem bdrewQ {B : Nat} {w w' : World} (h : Below B w w') (n : Nat) : Below B w (w'.drewN n) := ⟨h.os, h.tape, h.output, h.size, h.block⟩

set_option maxRecDepth 100000 in
set_option maxHeartbeats 8000000 in
theorem split_any (b : Nat) (la lo ln lz : Nat) (lev : Nat → Int) (ba bo bn bz : Nat) (bef : Nat → Int) (pa po pn pz : Nat) (prev : Nat → Int) (j : Nat) (w : World)
    (h0 : w.cell? ⟨b, 0, none⟩ = some (.slice (some ⟨la, lo, none⟩) ln lz)) (h1 : w.cell? ⟨b, 1, none⟩ = some (.slice (some ⟨ba, bo, none⟩) bn bz)) (hl : Xs w la lo ln lev) (hb : Xs w ba bo bn bef) (hp : Xs w pa po pn prev)
    (hjl : j ≤ ln) (hjb : j < bn) (hjp : j ≤ pn) (hbig : bn ≤ 1099511627776) :
    Calls Try.prog 30 #[.pointer (some ⟨b, 0, none⟩), .slice (some ⟨pa, po, none⟩) pn pz, .int .i64 j] w (SplitEnd (spl lev bef prev j j 9223372036854775807 0 0 0) w) := by
  have HL := hid hl
  have HB := hid hb
  have HP := hid hp
  clear hl hb hp
  go_enter Try.func30, Try.ntmps30
  go_wp2_with fail
  go_loopw [8, 9, 10, 11, 12] (fun best at' atL lv i wr => ∃ (k : Nat) (B C D E : Int), k ≤ j ∧ best = .int .i64 B ∧ at' = .int .i64 C ∧ atL = .int .i64 D ∧ lv = .int .i64 E ∧ i = .int .i64 ((k : Int) - 1) ∧ Hid (spl lev bef prev j k B C D E = spl lev bef prev j j 9223372036854775807 0 0 0) ∧ Below w.heap.size w wr) (fun _ _ _ _ i _ => (intOf i + 1).toNat)
  case atStart => exact ⟨j, _, _, _, _, Nat.le_refl _, rfl, rfl, rfl, rfl, rfl, rfl, Below.refl _ _⟩
  case round =>
    obtain ⟨k, B, C, D, E, hk, rfl, rfl, rfl, rfl, rfl, HEQ, hBw⟩ := hrel
    cases k with
    | zero =>
      have hz : ¬ ((0 : Nat) : Int) - 1 ≥ 0 := by omega
      go_wp2
      go_ret2
      refine ⟨?_, hBw⟩
      rw [← HEQ.out]
      rfl
    | succ i =>
      have hi1 : (((i + 1 : Nat) : Int) - 1) = (i : Int) := by omega
      rw [hi1]
      have hil : (i : Int) < (ln : Int) := by omega
      have hib : (i : Int) < (bn : Int) := by omega
      have hip : (i : Int) < (pn : Int) := by omega
      have hjb' : (j : Int) < (bn : Int) := by omega
      have g0 := keepc h0 hBw
      have g1 := keepc h1 hBw
      have g2 := keepc (HL.out i (by omega)) hBw
      have g3 := keepc (HB.out i (by omega)) hBw
      have g4 := keepc (HB.out j (by omega)) hBw
      have g5 := keepc (HP.out i (by omega)) hBw
      have HBW := hid hBw
      clear hBw
      by_cases hm : E < lev i
      · by_cases hc : wrap64 (prev i + wrap64 (wrap64 (bef j - bef i) * lev i)) < B
        · have q := HEQ.out
          rw [spl] at q
          simp only [mx, scost, if_pos hm, if_pos hc] at q
          have HQ := hid q
          clear q HEQ
          go_wp2_with fail
          go_quiet (fail)
          go_wp2_with fail
          go_roundw
          case rel => exact ⟨i, _, _, _, _, by omega, rfl, rfl, rfl, rfl, rfl, HQ.out, bdrewQ HBW.out _⟩
          case measure => simp [intOf]
        · have q := HEQ.out
          rw [spl] at q
          simp only [mx, scost, if_pos hm, if_neg hc] at q
          have HQ := hid q
          clear q HEQ
          go_wp2_with fail
          go_quiet (fail)
          go_wp2_with fail
          go_roundw
          case rel => exact ⟨i, _, _, _, _, by omega, rfl, rfl, rfl, rfl, rfl, HQ.out, bdrewQ HBW.out _⟩
          case measure => simp [intOf]
      · by_cases hc : wrap64 (prev i + wrap64 (wrap64 (bef j - bef i) * E)) < B
        · have q := HEQ.out
          rw [spl] at q
          simp only [mx, scost, if_neg hm, if_pos hc] at q
          have HQ := hid q
          clear q HEQ
          go_wp2_with fail
          go_quiet (fail)
          go_wp2_with fail
          go_roundw
          case rel => exact ⟨i, _, _, _, _, by omega, rfl, rfl, rfl, rfl, rfl, HQ.out, bdrewQ HBW.out _⟩
          case measure => simp [intOf]
        · have q := HEQ.out
          rw [spl] at q
          simp only [mx, scost, if_neg hm, if_neg hc] at q
          have HQ := hid q
          clear q HEQ
          go_wp2_with fail
          go_quiet (fail)
          go_wp2_with fail
          go_roundw
          case rel => exact ⟨i, _, _, _, _, by omega, rfl, rfl, rfl, rfl, rfl, HQ.out, bdrewQ HBW.out _⟩
          case measure => simp [intOf]

end Go.Proofs.Qxb6614303a

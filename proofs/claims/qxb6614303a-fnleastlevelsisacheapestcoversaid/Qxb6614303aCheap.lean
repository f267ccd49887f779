/-
  Seat b6614303a. zzCheapest (9): the least cost by a direct dynamic program over slots.
-/
import Derived.Test.Qxb6614303aZl
namespace Go.Proofs.Qxb6614303a
open Go.RowKit
set_option linter.unusedVariables false

/-- The least over the cuts from t on, -1 where there is none yet. -/
def bstF (f : Nat → Int) (jj t : Nat) : Int := if t = jj then -1 else Mn f t (jj - t)
theorem Mn_left (f : Nat → Int) (i k : Nat) (h : f i ≤ Mx) : Mn f i (k + 1) = min (f i) (Mn f (i + 1) k) := by
  rw [Nat.add_comm k 1, Mn_add f i 1 k]
  have : Mn f i 1 = f i := by
    simp only [Mn, Nat.add_zero]
    omega
  rw [this]
theorem bst_step {f : Nat → Int} {jj i : Nat} (hi : i < jj) (h0 : ∀ x, x < jj → 0 ≤ f x ∧ f x ≤ 9223372036854775807) : bstF f jj i = (if bstF f jj (i + 1) < 0 ∨ f i < bstF f jj (i + 1) then f i else bstF f jj (i + 1)) := by
  have hfi := h0 i hi
  unfold bstF
  rw [if_neg (by omega)]
  by_cases e : i + 1 = jj
  · rw [if_pos e, if_pos (.inl (by omega)), show jj - i = 0 + 1 by omega, Mn_left f i 0 hfi.2]
    simp only [Mn]
    have : f i ≤ Mx := hfi.2
    omega
  · rw [if_neg e, show jj - i = (jj - (i + 1)) + 1 by omega, Mn_left f i _ hfi.2]
    have h1 : 0 ≤ Mn f (i + 1) (jj - (i + 1)) := Mn_ge (by decide) (fun x h1 h2 => (h0 x (by omega)).1)
    by_cases e2 : f i < Mn f (i + 1) (jj - (i + 1))
    · rw [if_pos (.inr e2)]; omega
    · rw [if_neg (by omega)]; omega

def ChEnd (v : Int) (w : World) (e : Ending) (w' : World) : Prop := e = .returned (.int .i64 v) ∧ Below w.heap.size w w'

theorem cheap0_any (x : Option Addr) (nz : Nat) (mc : Int) (w : World) : Calls Try.prog 9 #[.slice x 0 nz, .int .i64 mc] w (ChEnd 0 w) := by
  go_enter Try.func9, Try.ntmps9
  go_wp2
  go_ret
  exact ⟨rfl, Below.refl _ _⟩

set_option maxRecDepth 100000 in
set_option maxHeartbeats 40000000 in
theorem cheap_any (g n nz mc : Nat) (zs : Nat → Int) (w : World) (hx : Xs w g 0 n zs) (hn0 : 0 < n) (hn : n ≤ 1024) (hz : ∀ s, s < n → 0 ≤ zs s ∧ zs s ≤ 2199023255552) (hmc : (mc : Int) ≤ 9223372036854775807) :
    Calls Try.prog 9 #[.slice (some ⟨g, 0, none⟩) n nz, .int .i64 (mc : Int)] w (ChEnd (rowOf zs sl ((if mc < n - 1 then mc + 1 else n) - 1) n) w) := by
  have hlb : Lb zs sl n := slots_lb hn hz
  obtain ⟨K, hK⟩ : ∃ K, (if mc < n - 1 then mc + 1 else n) = K + 1 := ⟨(if mc < n - 1 then mc + 1 else n) - 1, by split <;> omega⟩
  have hKn : K + 1 ≤ n := by rw [← hK]; split <;> omega
  rw [hK, Nat.add_sub_cancel]
  have hKr : (mc < n - 1 → K = mc) ∧ (n - 1 ≤ mc → K + 1 = n) := by
    constructor
    · intro h; rw [if_pos h] at hK; omega
    · intro h; rw [if_neg (by omega)] at hK; omega
  have HX := hid hx
  have HLB := hid hlb
  have HKR := hid hKr
  have hmk := fun X : World => run_make_row' (P := Try.prog) 22 2 (.int .i64 0) 8 Try.underlying22 info2 rfl .i64 .i64 (n + 1) (by omega) (by omega) X
  simp only [Int.natCast_add, Int.cast_ofNat_Int] at hmk
  have HMK := hid hmk
  have hn1 : ((n : Int) == 0) = false := by simp; omega
  clear hx hz hlb hK hKr hmk
  go_enter Try.func9, Try.ntmps9
  go_upto_if 25 with fail
  go_cut [6] (fun v wd => v = .int .i64 ((K : Int) + 1) ∧ w = wd)
  case first =>
    rcases Nat.lt_or_ge mc (n - 1) with h | h
    · have h1 : (mc : Int) < (n : Int) - 1 := by omega
      obtain rfl := HKR.out.1 h
      clear HMK
      go_wp2_with fail
      go_meet
      case rel => exact ⟨by first | rfl | go_num, by first | rfl | trivial⟩
    · have h1 : (n : Int) - 1 ≤ (mc : Int) := by omega
      have h2 := HKR.out.2 h
      have h3 : (n : Int) = (K : Int) + 1 := by omega
      have H3 := hid h3
      clear HMK h3 h2
      go_wp2_with fail
      go_meet
      case rel => exact ⟨by rw [H3.out], by first | rfl | trivial⟩
  case rest =>
    obtain ⟨rfl, rfl⟩ := hcut
    have hmk := HMK.out
    go_wp2_with fail
    have hBa : Below w.heap.size w (w.alloc (.cells (madeCells #[.int .i64 0] (n + 1)) 2)) := (Below.refl _ _).alloc (Nat.le_refl _) _
    have hrow := World.rowIs_made w (.int .i64 0) (n + 1) 2
    obtain ⟨W5, hW5⟩ : ∃ W5, w.alloc (.cells (madeCells #[.int .i64 0] (n + 1)) 2) = W5 := ⟨_, rfl⟩
    obtain ⟨g1, hg1⟩ : ∃ g1, w.heap.size = g1 := ⟨_, rfl⟩
    have hwg1 : w.heap.size ≤ g1 := by omega
    rw [hW5] at hBa hrow ⊢
    rw [hg1] at hrow
    have HB5 := hid hBa
    have HR5 := hid hrow
    rw [hg1]
    clear hBa hrow hW5 hg1 hmk
    go_loopw [8, 9] (fun tv jv wr => ∃ i : Nat, i ≤ n ∧ tv = .int .i64 (need zs 0 i) ∧ jv = .int .i64 ((i : Int) + 1) ∧ Hid (Below w.heap.size w wr) ∧ Hid (wr.rowIs g1 2 (n + 1) (fun q => .int .i64 (if q ≤ i then rowOf zs sl 0 q else 0)))) (fun _ jv _ => n + 1 - (intOf jv).toNat)
    case atStart => exact ⟨0, Nat.zero_le _, rfl, rfl, HB5, hid (World.rowIs.congr HR5.out (fun q hq => by
      by_cases e : q ≤ 0
      · have e0 : q = 0 := by omega
        rw [if_pos e, e0, (row_bd HLB.out 0).p0]
      · rw [if_neg e]))⟩
    case round =>
      clear HB5 HR5
      obtain ⟨i, hi, rfl, rfl, HB, HR⟩ := hrel
      rcases Nat.lt_or_ge i n with hin | hin
      · have hin1 : (i : Int) + 1 ≤ (n : Int) := by omega
        have hin2 : (i : Int) < (n : Int) := by omega
        have hin3 : (i : Int) + 1 < (n : Int) + 1 := by omega
        have g0 := keepc (HX.out i hin) HB.out
        rw [Nat.zero_add] at g0
        obtain ⟨zi, hzi⟩ : ∃ zi, zs i = zi := ⟨_, rfl⟩
        obtain ⟨T, hT⟩ : ∃ T, need zs 0 i = T := ⟨_, rfl⟩
        have hT2 : need zs 0 (i + 1) = max T zi := by rw [need, Nat.zero_add, hT, hzi]
        have hTb := need_le HLB.out.lev0 0 (i + 1) (by omega)
        have hTp := need_pos zs 0 (i + 1)
        rw [hT2] at hTb hTp
        have hrw : rowOf zs sl 0 (i + 1) = ((i : Int) + 1) * max T zi := by
          rw [rowOf, hT2]
          rfl
        have hbm := bmul (a := (i : Int) + 1) (x := max T zi) (by omega) (by omega) hTp hTb
        rw [hzi] at g0
        rw [hT]
        have r1 := HR.out.cell (i := i + 1) (by omega)
        have r2 := HR.out.frozen (i + 1)
        rw [if_neg (by omega)] at r1
        have HT2 := hid hT2
        have HRW := hid hrw
        clear hzi hT hT2 hrw hTb hTp
        rcases Int.lt_or_le T zi with hlt | hge
        ·
          --@a1
          have hmx : max T zi = zi := by omega
          have hwr : IntKind.i64.wrap (((i : Int) + 1) * zi) = ((i : Int) + 1) * zi := by rw [hmx] at hbm; exact wrap_mid (by omega) (by omega)
          have HMX := hid hmx
          clear hmx hbm
          go_wp2_with fail
          go_roundw
          case rel =>
            refine ⟨i + 1, by omega, by rw [HT2.out, HMX.out], by first | rfl | go_num, hid (HB.out.setCell (by show w.heap.size ≤ g1; exact hwg1) _), hid (World.rowIs.congr (HR.out.set (i + 1) _) (fun q hq => ?_))⟩
            by_cases e : q = i + 1
            · rw [if_pos e, if_pos (by omega), e, HRW.out, HMX.out]
            · rw [if_neg e]
              by_cases e2 : q ≤ i
              · rw [if_pos e2, if_pos (by omega)]
              · rw [if_neg e2, if_neg (by omega)]
          case measure => simp [intOf]; omega
        ·
          --@a2
          have hmx : max T zi = T := by omega
          have hwr : IntKind.i64.wrap (((i : Int) + 1) * T) = ((i : Int) + 1) * T := by rw [hmx] at hbm; exact wrap_mid (by omega) (by omega)
          have HMX := hid hmx
          clear hmx hbm
          go_wp2_with fail
          go_roundw
          case rel =>
            refine ⟨i + 1, by omega, by rw [HT2.out, HMX.out], by first | rfl | go_num, hid (HB.out.setCell (by show w.heap.size ≤ g1; exact hwg1) _), hid (World.rowIs.congr (HR.out.set (i + 1) _) (fun q hq => ?_))⟩
            by_cases e : q = i + 1
            · rw [if_pos e, if_pos (by omega), e, HRW.out, HMX.out]
            · rw [if_neg e]
              by_cases e2 : q ≤ i
              · rw [if_pos e2, if_pos (by omega)]
              · rw [if_neg e2, if_neg (by omega)]
          case measure => simp [intOf]; omega
      · have hin1 : (n : Int) < (i : Int) + 1 := by omega
        have hin2 : decide ((i : Int) + 1 ≤ (n : Int)) = false := by simp; omega
        have HR0 : Hid (wr.rowIs g1 2 (n + 1) (fun q => .int .i64 (rowOf zs sl 0 q))) := hid (World.rowIs.congr HR.out (fun q hq => by rw [if_pos (by omega)]))
        obtain ⟨T, hT⟩ : ∃ T, need zs 0 i = T := ⟨_, rfl⟩
        rw [hT]
        clear HR hT
        go_wp2_with fail
        clear hin1 hin2
        go_loopw [7, 10] (fun dv kv wr => ∃ m gd : Nat, m ≤ K ∧ dv = .slice (some ⟨gd, 0, none⟩) (n + 1) (n + 1) ∧ kv = .int .i64 ((m : Int) + 2) ∧ w.heap.size ≤ gd ∧ Hid (Below w.heap.size w wr) ∧ Hid (wr.rowIs gd 2 (n + 1) (fun q => .int .i64 (rowOf zs sl m q)))) (fun _ kv _ => K + 3 - (intOf kv).toNat)
        case atStart => exact ⟨0, g1, Nat.zero_le _, rfl, rfl, hwg1, HB, HR0⟩
        case round =>
          clear HB HR0
          obtain ⟨m, gd, hm, rfl, rfl, hgd, HB, HR⟩ := hrel
          rcases Nat.lt_or_ge m K with hmK | hmK
          · have hmK1 : (m : Int) + 2 ≤ (K : Int) + 1 := by omega
            have hmk := HMK.out
            go_wp2_with fail
            have hBa : Below wr.heap.size wr (wr.alloc (.cells (madeCells #[.int .i64 0] (n + 1)) 2)) := (Below.refl _ _).alloc (Nat.le_refl _) _
            have hrow := World.rowIs_made wr (.int .i64 0) (n + 1) 2
            obtain ⟨W6, hW6⟩ : ∃ W6, wr.alloc (.cells (madeCells #[.int .i64 0] (n + 1)) 2) = W6 := ⟨_, rfl⟩
            have hgl : gd < wr.heap.size := by
              have hr := HR.out
              obtain ⟨cur, h1, _⟩ := hr
              exact (Array.getElem?_eq_some_iff.1 h1).1
            have hws := HB.out.size
            obtain ⟨gn, hgn⟩ : ∃ gn, wr.heap.size = gn := ⟨_, rfl⟩
            have HB6 : Hid (Below w.heap.size w W6) := hid (by rw [← hW6]; exact HB.out.trans (hBa.mono HB.out.size))
            have HR6 : Hid (W6.rowIs gd 2 (n + 1) (fun q => .int .i64 (rowOf zs sl m q))) := hid (by rw [← hW6]; exact rowIs_of_block HR.out (hBa.block gd hgl))
            rw [hW6] at hrow ⊢
            rw [hgn] at hrow hgl hws ⊢
            have HN6 := hid hrow
            clear hBa hrow hW6 hgn hmk HB HR
            go_loopw [12] (fun jv wr => ∃ j : Nat, j ≤ n ∧ jv = .int .i64 ((j : Int) + 1) ∧ Hid (Below w.heap.size w wr) ∧ Hid (wr.rowIs gd 2 (n + 1) (fun q => .int .i64 (rowOf zs sl m q))) ∧ Hid (wr.rowIs gn 2 (n + 1) (fun q => .int .i64 (if q ≤ j then rowOf zs sl (m + 1) q else 0)))) (fun jv _ => n + 1 - (intOf jv).toNat)
            case atStart => exact ⟨0, Nat.zero_le _, rfl, HB6, HR6, hid (World.rowIs.congr HN6.out (fun q hq => by
              by_cases e : q ≤ 0
              · have e0 : q = 0 := by omega
                rw [if_pos e, e0, (row_bd HLB.out (m + 1)).p0]
              · rw [if_neg e]))⟩
            case round =>
              clear HB6 HR6 HN6
              obtain ⟨j, hj, rfl, HB, HR, HN⟩ := hrel
              rcases Nat.lt_or_ge j n with hjn | hjn
              · have hjn1 : (j : Int) + 1 ≤ (n : Int) := by omega
                have hjn3 : (j : Int) + 1 < (n : Int) + 1 := by omega
                obtain ⟨F, hF⟩ : ∃ F, cst zs sl (rowOf zs sl m) (j + 1) = F := ⟨_, rfl⟩
                have HFb : Hid (∀ x, x < j + 1 → 0 ≤ F x ∧ F x ≤ 4503599627370496) := hid (fun x hx => by rw [← hF]; exact cst_bd (row_bd HLB.out m) (by omega) (by omega))
                have HFe : Hid (∀ x, F x = rowOf zs sl m x + (sl (j + 1) - sl x) * need zs x (j + 1 - x)) := hid (fun x => by rw [← hF]; rfl)
                have HFr : Hid (rowOf zs sl (m + 1) (j + 1) = Mn F 0 (j + 1)) := hid (by rw [rowOf, nxt, if_neg (by omega), hF])
                clear hF
                go_wp2_with fail
                go_loopw [13, 14, 15] (fun mv bv iv wx => ∃ t : Nat, t ≤ j + 1 ∧ mv = .int .i64 (need zs t (j + 1 - t)) ∧ bv = .int .i64 (bstF F (j + 1) t) ∧ iv = .int .i64 ((t : Int) - 1) ∧ wr = wx) (fun _ _ iv _ => (intOf iv + 1).toNat)
                case atStart => exact ⟨j + 1, Nat.le_refl _, by rw [Nat.sub_self]; rfl, by rw [bstF, if_pos rfl], by rw [show ((j + 1 : Nat) : Int) - 1 = (j : Int) by omega], by first | rfl | trivial⟩
                case round =>
                  obtain ⟨tt, htt, rfl, rfl, rfl, rfl⟩ := hrel
                  cases tt with
                  | zero =>
                    --@b0
                    have hz0 : ((0 : Nat) : Int) - 1 < 0 := by omega
                    have hbe : bstF F (j + 1) 0 = rowOf zs sl (m + 1) (j + 1) := by rw [HFr.out, bstF, if_neg (by omega), Nat.sub_zero]
                    obtain ⟨bv, hbv⟩ : ∃ bv, bstF F (j + 1) 0 = bv := ⟨_, rfl⟩
                    obtain ⟨mv, hmv⟩ : ∃ mv, need zs 0 (j + 1 - 0) = mv := ⟨_, rfl⟩
                    have r1 := HN.out.cell (i := j + 1) (by omega)
                    have r2 := HN.out.frozen (j + 1)
                    rw [if_neg (by omega)] at r1
                    rw [hbv, hmv]
                    have HBV : Hid (rowOf zs sl (m + 1) (j + 1) = bv) := hid (by rw [← hbe, hbv])
                    clear hbe hbv hmv
                    go_wp2_with fail
                    go_roundw
                    case rel =>
                      refine ⟨j + 1, by omega, by first | rfl | go_num, hid (HB.out.setCell (by show w.heap.size ≤ gn; omega) _), hid (rowIs_of_block HR.out (Below.heap_setCell _ _ _ _ (by show gd ≠ gn; omega))), hid (World.rowIs.congr (HN.out.set (j + 1) _) (fun q hq => ?_))⟩
                      by_cases e : q = j + 1
                      · rw [if_pos e, if_pos (by omega), e, HBV.out]
                      · rw [if_neg e]
                        by_cases e2 : q ≤ j
                        · rw [if_pos e2, if_pos (by omega)]
                        · rw [if_neg e2, if_neg (by omega)]
                    case measure => simp [intOf]; omega
                  | succ i =>
                    have hi0 : (0 : Int) ≤ (i : Int) := by omega
                    have hin : (i : Int) < (n : Int) := by omega
                    have hin2 : (i : Int) < (n : Int) + 1 := by omega
                    rw [show ((i + 1 : Nat) : Int) - 1 = (i : Int) by omega]
                    have g0 := keepc (HX.out i (by omega)) HB.out
                    rw [Nat.zero_add] at g0
                    have g1' := HR.out.cell (i := i) (by omega)
                    obtain ⟨zi, hzi⟩ : ∃ zi, zs i = zi := ⟨_, rfl⟩
                    obtain ⟨M, hM⟩ : ∃ M, need zs (i + 1) (j + 1 - (i + 1)) = M := ⟨_, rfl⟩
                    obtain ⟨M2, hM2⟩ : ∃ M2, need zs i (j + 1 - i) = M2 := ⟨_, rfl⟩
                    obtain ⟨di, hdi⟩ : ∃ di, rowOf zs sl m i = di := ⟨_, rfl⟩
                    obtain ⟨B, hB⟩ : ∃ B, bstF F (j + 1) (i + 1) = B := ⟨_, rfl⟩
                    have hmx : M2 = mx M zi := by rw [← hM2, show j + 1 - i = (j + 1 - (i + 1)) + 1 by omega, need_left, hM, hzi]
                    have hFi := HFe.out i
                    rw [hdi, hM2] at hFi
                    have hFb := HFb.out i (by omega)
                    obtain ⟨cc, hcc⟩ : ∃ cc, F i = cc := ⟨_, rfl⟩
                    rw [hcc] at hFi hFb
                    have hsl : sl (j + 1) - sl i = (j : Int) + 1 - (i : Int) := by simp only [sl]; omega
                    rw [hsl] at hFi
                    have hM2b := need_le HLB.out.lev0 i (j + 1 - i) (by omega)
                    have hM2p := need_pos zs i (j + 1 - i)
                    rw [hM2] at hM2b hM2p
                    have hbm := bmul (a := (j : Int) + 1 - (i : Int)) (x := M2) (by omega) (by omega) hM2p hM2b
                    have hstep := bst_step (f := F) (jj := j + 1) (i := i) (by omega) (fun x hx => by have := HFb.out x hx; omega)
                    rw [hB, hcc] at hstep
                    have hw1 : IntKind.i64.wrap ((j : Int) + 1 - (i : Int)) = (j : Int) + 1 - (i : Int) := wrap_mid (by omega) (by omega)
                    have hw2 : IntKind.i64.wrap (((j : Int) + 1 - (i : Int)) * M2) = ((j : Int) + 1 - (i : Int)) * M2 := wrap_mid (by omega) (by omega)
                    have hw3 : IntKind.i64.wrap (di + ((j : Int) + 1 - (i : Int)) * M2) = cc := by rw [← hFi]; exact wrap_mid (by omega) (by omega)
                    rw [hzi] at g0
                    rw [hdi] at g1'
                    rw [hM, hB]
                    have HM2 := hid hM2
                    have HMX := hid hmx
                    have HST := hid hstep
                    clear hzi hM hM2 hdi hB hFi hFb hcc hsl hM2b hM2p hbm hstep hmx
                    go_upto_if 78 with fail
                    go_cut [13] (fun v wd => v = .int .i64 M2 ∧ wr = wd)
                    case first =>
                      rcases Int.lt_or_le M zi with hlt | hge
                      ·
                        --@b1
                        have hmm : M2 = zi := by rw [HMX.out, mx, if_pos hlt]
                        have HMM := hid hmm
                        clear hmm
                        go_wp2_with fail
                        go_meet
                        case rel => exact ⟨by rw [HMM.out], by first | rfl | trivial⟩
                      ·
                        --@b2
                        have hmm : M2 = M := by rw [HMX.out, mx, if_neg (by omega)]
                        have HMM := hid hmm
                        clear hmm
                        go_wp2_with fail
                        go_meet
                        case rel => exact ⟨by rw [HMM.out], by first | rfl | trivial⟩
                    case rest =>
                      obtain ⟨rfl, rfl⟩ := hcut
                      rcases Int.lt_or_le B 0 with hB0 | hB0
                      ·
                        --@b3
                        have hd1 : decide (B < 0) = true := by simp; omega
                        go_wp2_with fail
                        go_roundw
                        case rel => exact ⟨i, by omega, by rw [HM2.out], by rw [HST.out, if_pos (.inl hB0)], rfl, by first | rfl | trivial⟩
                        case measure => simp [intOf]
                      rcases Int.lt_or_le cc B with hcB | hcB
                      ·
                        --@b4
                        have hd1 : decide (B < 0) = false := by simp; omega
                        have hd2 : decide (cc < B) = true := by simp; omega
                        go_wp2_with fail
                        go_roundw
                        case rel => exact ⟨i, by omega, by rw [HM2.out], by rw [HST.out, if_pos (.inr hcB)], rfl, by first | rfl | trivial⟩
                        case measure => simp [intOf]
                      ·
                        --@b5
                        have hd1 : decide (B < 0) = false := by simp; omega
                        have hd2 : decide (cc < B) = false := by simp; omega
                        go_wp2_with fail
                        go_roundw
                        case rel => exact ⟨i, by omega, by rw [HM2.out], by rw [HST.out, if_neg (by omega)], rfl, by first | rfl | trivial⟩
                        case measure => simp [intOf]
              ·
                --@b9
                have hjn1 : (n : Int) < (j : Int) + 1 := by omega
                have HNr : Hid (wr.rowIs gn 2 (n + 1) (fun q => .int .i64 (rowOf zs sl (m + 1) q))) := hid (World.rowIs.congr HN.out (fun q hq => by rw [if_pos (by omega)]))
                go_wp2_with fail
                go_roundw
                case rel => exact ⟨m + 1, gn, by omega, rfl, by first | rfl | go_num, by omega, HB, HNr⟩
                case measure => simp [intOf]; omega
          ·
            --@a9
            obtain rfl : m = K := by omega
            have hmK1 : (m : Int) + 1 < (m : Int) + 2 := by omega
            have r1 := HR.out.cell (i := n) (by omega)
            have hnn : (n : Int) < (n : Int) + 1 := by omega
            go_wp2
            go_ret
            exact ⟨rfl, HB.out⟩
end Go.Proofs.Qxb6614303a

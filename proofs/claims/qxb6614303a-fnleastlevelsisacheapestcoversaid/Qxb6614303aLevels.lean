/-
  Seat b6614303a. leastLevels (19).
-/
import Derived.Test.Qxb6614303aLv
import Derived.Test.Qxb6614303aStride
import Derived.Test.Qxb6614303aNew0
import Derived.Handy
import Derived.Laws.FloatArith
import Derived.Deep.DeepCutAuto
import Derived.Deep.CutBlock
namespace Go.Proofs.Qxb6614303a
open Go.RowKit
set_option linter.unusedVariables false

/-- What leastLevels answers. -/
def lvO (zs : Nat → Int) (n mc : Nat) : Nat → Int := if runsN zs n ≤ mc + 1 then zs else lvf (levO zs n) (ofN (beO zs n)) (mc + 1) (runsN zs n)

def LvEnd (n : Nat) (f : Nat → Int) (w : World) (e : Ending) (w' : World) : Prop :=
  Below w.heap.size w w' ∧ ∃ g z, w.heap.size ≤ g ∧ e = .returned (.slice (some ⟨g, 0, none⟩) n z) ∧ Xs w' g 0 n f

set_option maxRecDepth 100000 in
set_option maxHeartbeats 40000000 in
theorem levels_any (na no n nz mc : Nat) (zs : Nat → Int) (w : World) (hx : Xs w na no n zs) (hn0 : 0 < n) (hn : n ≤ 1024) (hz : ∀ s, s < n → 0 ≤ zs s ∧ zs s ≤ 2199023255552) (hmc : (mc : Int) ≤ 9223372036854775807) :
    Calls Try.prog 19 #[.slice (some ⟨na, no, none⟩) n nz, .int .i64 (mc : Int)] w (LvEnd n (lvO zs n mc) w) := by
  have HX := hid hx
  have HZ := hid hz
  have HC := hid (new_any na no n nz zs w hx (by omega) hn0)
  clear hx hz
  go_enter Try.func19, Try.ntmps19
  go_wp2_with fail
  refine Calls.mono HC.out ?_
  rintro e W1 hE
  obtain ⟨pb, la, lz, ba, bz, da, dz, ta, tz, rfl, hLX⟩ := hE.lx hn0 hn HZ.out
  have hlv : runsN zs n ≤ mc + 1 → lvO zs n mc = zs := fun h => if_pos h
  have hlv2 : ¬ runsN zs n ≤ mc + 1 → lvO zs n mc = lvf (levO zs n) (ofN (beO zs n)) (mc + 1) (runsN zs n) := fun h => if_neg h
  have hbe : beO zs n (runsN zs n) = n := (runs_ok zs n).bR
  have hbm : ∀ i j, i ≤ j → j ≤ runsN zs n → beO zs n i ≤ beO zs n j := fun i j h1 h2 => (runs_ok zs n).mono h1 h2
  have hb00 : beO zs n 0 = 0 := (runs_ok zs n).b0
  generalize runsN zs n = R at *
  generalize (dist (runs zs n).1).length = D at *
  generalize levO zs n = lev at *
  generalize beO zs n = be at *
  generalize disO zs n = dis at *
  generalize latO zs n = lat at *
  generalize lvO zs n mc = out at *
  have hR := hLX.hR
  have hR2 := hLX.hR2
  have HLX := hid hLX
  have HBE := hid hbe
  have HBM := hid hbm
  have HB0 := hid hb00
  have HLV1 := hid hlv
  have HLV2 := hid hlv2
  obtain ⟨c0, c1, hpbl⟩ := hLX.start.cells
  clear hE hLX HC hlv hlv2 hbe hbm hb00
  by_cases hcl : R ≤ mc + 1
  · have hcl1 : (R : Int) - 1 ≤ (mc : Int) := by omega
    --@c1
    have hcz : ∀ j, j < (List.range n).length → W1.cell? ⟨na, no + j, none⟩ = some (.int .i64 (((List.range n).map zs).getD j 0)) := by
      intro j hj
      rw [List.length_range] at hj
      have h1 := keepc (HX.out j hj) HLX.out.below
      rw [h1]
      simp [List.getD, hj]
    have hC := Try.slices_Clone_int na no n nz ((List.range n).map zs) W1 (by simp) (by omega) (by simpa using hcz)
    have HC := hid hC
    clear hC hcz
    go_wp2_with fail
    refine Calls.mono HC.out ?_
    rintro e w4 ⟨v4, rfl, o4, v4n, hB4⟩
    obtain ⟨ga, gz, rfl, hga, -⟩ := Lib.holds_of_ownsRow o4 v4n
    have O4 := hid o4
    have HB4 := hid hB4
    clear o4 v4n hB4 HC
    go_wp2
    go_ret
    rw [HLV1.out hcl]
    refine ⟨HLX.out.below.trans (HB4.out.mono HLX.out.below.size), ga, gz, Nat.le_trans HLX.out.below.size hga, by simp, fun j hj => ?_⟩
    rw [Nat.zero_add, O4.out.cellAt j (by simpa using hj)]
    simp [hj]
  · have hcl1 : decide ((R : Int) - 1 ≤ (mc : Int)) = false := by simp; omega
    have hcl2 : mc + 1 < R := by omega
    have hcl3 : (mc : Int) < (R : Int) - 1 := by omega
    have HOUT := hid (HLV2.out hcl)
    clear hcl HLV1 HLV2
    obtain ⟨b2, b3, st, k1, k2, k3, k4, k5, k6⟩ := stride_steps (s := mc + 1) (by omega) (by omega)
    obtain ⟨S, hS⟩ : ∃ S : Nat, mc + 1 = S := ⟨_, rfl⟩
    have hSi : (mc : Int) + 1 = (S : Int) := by omega
    rw [hS] at k1
    go_wp2_with fail
    refine Calls.mono (sqrt_any _ b2 W1 k1) ?_
    rintro e w' ⟨rfl, hw'⟩
    rw [hw']
    have hS1 : 1 ≤ S := by omega
    have hSR : S < R := by omega
    have HS := hid hS
    clear hSi hS hcl1 hcl2 hcl3 hw'
    have HK3 := hid k3
    have HK2 := hid k2
    obtain ⟨sn, rfl⟩ : ∃ sn : Nat, st = (sn : Int) := ⟨st.toNat, by omega⟩
    have hcv : ∀ X : World, (convert 53 3 (.float .f64 b3)).run Try.prog X = .ok (.int .i64 (sn : Int)) X := fun X => run_convert_float_int (w := X) (src := 53) (dst := 3) (s := .f64) (k := .i64) (b := b3) (n := (sn : Int)) (hs := by kernel_rfl) (hd := Try.underlying3) (h := by
      unfold floatToIntVal
      rw [k4]
      have h1 : IntKind.i64.min ≤ (sn : Int) ∧ (sn : Int) ≤ IntKind.i64.max := ⟨by show (-9223372036854775808 : Int) ≤ _; omega, by show _ ≤ (9223372036854775807 : Int); omega⟩
      simp only [h1, and_self, if_true])
    have hsn1 : 1 ≤ sn := by omega
    have hsn2 : sn ≤ 1024 := by omega
    have hsn3 : ¬ (sn : Int) = 0 := by omega
    have HCV := hid hcv
    clear k1 k2 k3 k4 k5 k6 hcv
    go_wp2_with fail
    refine Calls.mono (ceil_any b2 _ HK2.out) ?_
    rintro e w'' ⟨rfl, hw'⟩
    rw [HK3.out, hw']
    have hcv := HCV.out
    clear HCV HK2 HK3 hw'
    go_wp2_with fail
    clear hcv
    have hC := firstRow_any pb la 0 R lz lev ba 0 (R + 1) bz (ofN be) W1 c0 c1 HLX.out.xl HLX.out.xb rfl (by omega)
    refine Calls.mono hC ?_
    rintro e w2 ⟨hB2, g0, hg0, rfl, hr0⟩
    have HS2 := hid (HLX.out.start.later HLX.out.alt hB2)
    have HR0 : Hid (w2.rowIs g0 2 (R + 1) (fun q => .int .i64 (rowOf lev (ofN be) 0 q))) := hid (World.rowIs.congr hr0 (fun q hq => by rw [row_fr HLX.out.lb q (by omega)]))
    clear hC hB2 hr0 hg0 c0 c1 hpbl
    go_wp2_with fail
    go_loopw [9, 10, 11] (fun kv kk rv wr => ∃ (i g j : Nat) (L : List Nat), i + 1 ≤ S ∧ kk = .int .i64 ((i : Int) + 1) ∧ rv = .slice (some ⟨g, 0, none⟩) (R + 1) (R + 1) ∧ Hid (LS w W1 pb (.slice (some ⟨la, 0, none⟩) R lz) (.slice (some ⟨ba, 0, none⟩) (R + 1) bz) (.slice (some ⟨da, 0, none⟩) D dz) (.slice (some ⟨ta, 0, none⟩) R tz) wr) ∧ Hid (Rows wr W1.heap.size kv L R (fun c => rowOf lev (ofN be) (c * sn))) ∧ Hid (wr.rowIs g 2 (R + 1) (fun q => .int .i64 (rowOf lev (ofN be) j q))) ∧ Hid (i + 1 < S → j = i) ∧ Hid (∀ c, c < L.length ↔ c * sn < i)) (fun _ kk _ _ => S - (intOf kk).toNat)
    case atStart => exact ⟨0, g0, 0, [], hS1, rfl, rfl, HS2.out, rows_nil _ _ _ _, HR0.out, hid (fun _ => rfl), hid (fun c => by simp)⟩
    case round =>
      obtain ⟨i, g, j, L, hi, rfl, rfl, HS3, HRK, HRG, HJ, HLL⟩ := hrel
      clear HS2 HR0
      by_cases hiS : i + 1 < S
      · have hiS1 : (i : Int) + 1 < (S : Int) := by omega
        go_upto_if 52 with fail
        go_cut [9] (fun kv wd => ∃ (L : List Nat), Hid (LS w W1 pb (.slice (some ⟨la, 0, none⟩) R lz) (.slice (some ⟨ba, 0, none⟩) (R + 1) bz) (.slice (some ⟨da, 0, none⟩) D dz) (.slice (some ⟨ta, 0, none⟩) R tz) wd) ∧ Hid (Rows wd W1.heap.size kv L R (fun c => rowOf lev (ofN be) (c * sn))) ∧ Hid (wd.rowIs g 2 (R + 1) (fun q => .int .i64 (rowOf lev (ofN be) j q))) ∧ Hid (∀ c, c < L.length ↔ c * sn < i + 1))
        case first =>
          --@l1
          by_cases hmod : i % sn = 0
          · have hmb : ((i : Int) % (sn : Int) == 0) = true := by
              have : (i : Int) % (sn : Int) = ((i % sn : Nat) : Int) := by simp
              rw [this, hmod]
              rfl
            have hLl := kept_len HLL.out hsn1
            have HLl : Hid (L.length + 1 ≤ 1099511627776) := hid (by omega)
            have HWs : Hid (W1.heap.size ≤ wr.heap.size) := hid HS3.out.keep.size
            have HMOD := hid hmod
            clear hmod hLl
            go_wp2_with (first
              | (refine wpList_app22 (base := W1.heap.size) (v := u9) (L := L) (R := R) (g := g) (t := 22) (X := wr) rfl _ _ rfl rfl rfl HRK.out.own HLl.out HWs.out ?_; intro x' z' w3 ho3 hg3)
              | fail)
            go_meet
            case rel =>
              have hm := kept_mod HLL.out hsn1 HMOD.out
              have hji := HJ.out hiS
              refine ⟨L ++ [g], hid (HS3.out.grown HLX.out.alt HRK.out.own (Nat.le_refl _) hg3.out), hid (HRK.out.push ho3.out hg3.out ?_), hid ?_, hid ?_⟩
              · show wr.rowIs g 2 (R + 1) (fun q => .int .i64 (rowOf lev (ofN be) (L.length * sn) q))
                rw [hm, ← hji]
                exact HRG.out
              · have hr := HRG.out
                have hb := hr
                obtain ⟨cur, h1, _⟩ := hb
                refine rowIs_of_block hr (hg3.out.block g (Array.getElem?_eq_some_iff.1 h1).1 (fun e => ?_))
                obtain ⟨c, hc⟩ := owns_tag HRK.out.own e.symm
                rw [h1] at hc
                simp at hc
              · intro c
                rw [List.length_append]
                exact kept_push hm hsn1 c
          · have hmb : ((i : Int) % (sn : Int) == 0) = false := by
              have : (i : Int) % (sn : Int) = ((i % sn : Nat) : Int) := by simp
              rw [this]
              simp
              omega
            have HMOD := hid hmod
            clear hmod
            go_wp2_with fail
            go_meet
            case rel => exact ⟨L, HS3, HRK, HRG, hid (kept_skip HLL.out HMOD.out)⟩
        case rest =>
          clear HS3 HRK HRG HLL
          obtain ⟨L2, HS3, HRK, HRG, HLL⟩ := hcut
          have hji := HJ.out hiS
          subst hji
          clear HJ
          by_cases hi2 : j + 1 + 1 < S
          · have hi2i : (j : Int) + 1 + 1 < (S : Int) := by omega
            have HC := hid (HS3.out.next HLX.out HRG.out)
            --@l2
            go_wp2_with fail
            refine Calls.mono HC.out ?_
            rintro e w4 ⟨g4, rfl, hg4, HS4, HR4, HO4⟩
            simp only [slv]
            go_wp2_with fail
            go_roundw
            case rel => exact ⟨j + 1, g4, j + 1, L2, by omega, by first | rfl | go_num, rfl, HS4, hid (HRK.out.keep HO4.out), HR4, hid (fun _ => rfl), HLL⟩
            case measure => simp [intOf]; omega
          · have hi2i : (S : Int) ≤ (j : Int) + 1 + 1 := by omega
            have HI2 := hid hi2
            clear hi2
            --@l3
            go_wp2_with fail
            go_roundw
            case rel => exact ⟨j + 1, g, j, L2, by omega, by first | rfl | go_num, rfl, HS3, HRK, HRG, hid (fun h => absurd h HI2.out), HLL⟩
            case measure => simp [intOf]; omega
      · have hiS1 : (S : Int) ≤ (i : Int) + 1 := by omega
        have hiS2 : i + 1 = S := by omega
        have hdec : decide ((i : Int) + 1 < (S : Int)) = false := by simp; omega
        have HLL2 : Hid (∀ c, c * sn + 1 < S → c < L.length) := hid (fun c hc => (HLL.out c).2 (by omega))
        have HMK := hid (fun X : World => run_make_row' (P := Try.prog) 22 2 (.int .i64 0) 8 Try.underlying22 info2 rfl .i64 .i64 n (by omega) (by omega) X)
        have hmk := HMK.out
        clear hiS HJ HLL HMK
        go_wp2_with fail
        clear hmk hiS1 hiS2 hdec
        have hBa : Below wr.heap.size wr (wr.alloc (.cells (madeCells #[.int .i64 0] n) 2)) := (Below.refl _ _).alloc (Nat.le_refl _) _
        have hrow := World.rowIs_made wr (.int .i64 0) n 2
        obtain ⟨W5, hW5⟩ : ∃ W5, wr.alloc (.cells (madeCells #[.int .i64 0] n) 2) = W5 := ⟨_, rfl⟩
        obtain ⟨gl, hgl⟩ : ∃ gl, wr.heap.size = gl := ⟨_, rfl⟩
        have hs5 : W5.heap.size = gl + 1 := by rw [← hW5, World.size_alloc, hgl]
        have H5 : Hid (LT w W1 pb (.slice (some ⟨la, 0, none⟩) R lz) (.slice (some ⟨ba, 0, none⟩) (R + 1) bz) (.slice (some ⟨da, 0, none⟩) D dz) (.slice (some ⟨ta, 0, none⟩) R tz) gl n R sn (gl + 1) lev be out u9 L (.slice none 0 0) [] 0 (fun s => if be R ≤ s then out s else 0) W5) := by
          rw [hW5] at hBa hrow
          rw [hgl] at hrow
          have hss := HS3.out.keep.size
          refine hid ⟨HS3.out.later HLX.out.alt hBa, HRK.out.later hBa, rows_nil _ _ _ _, ?_, fun q hq => ?_, fun q hq => absurd hq (by simp), fun q hq => ?_, by omega, by omega, by omega, by omega⟩
          · refine World.rowIs.congr hrow (fun q hq => ?_)
            rw [HBE.out, if_neg (by omega)]
          · have h1 := HRK.out.row q hq
            obtain ⟨cur, h2, _⟩ := h1
            have := (Array.getElem?_eq_some_iff.1 h2).1
            omega
          · have := owns_lt HRK.out.own hq
            omega
        rw [hW5, hgl]
        clear hBa hrow hW5 hgl hs5 HS3 HRK HRG
        go_loopw [13, 14, 15, 16] (fun rv fv kv jv wr => ∃ (k j fr : Nat) (L2 : List Nat), j ≤ R ∧ k ≤ S ∧ fv = .int .i64 (fr : Int) ∧ kv = .int .i64 (k : Int) ∧ jv = .int .i64 (j : Int) ∧ Hid (LT w W1 pb (.slice (some ⟨la, 0, none⟩) R lz) (.slice (some ⟨ba, 0, none⟩) (R + 1) bz) (.slice (some ⟨da, 0, none⟩) D dz) (.slice (some ⟨ta, 0, none⟩) R tz) gl n R sn (gl + 1) lev be out u9 L rv L2 fr (fun s => if be j ≤ s then out s else 0) wr) ∧ Hid (∀ s, s < be j → out s = lvf lev (ofN be) k j s) ∧ Hid (0 < j → 1 ≤ k) ∧ Hid (L2 = [] → rv = .slice none 0 0) ∧ Hid (L2 ≠ [] → 1 ≤ fr ∧ k ≤ fr + L2.length)) (fun _ _ _ jv _ => (intOf jv).toNat)
        case atStart => exact ⟨S, R, 0, [], Nat.le_refl _, Nat.le_refl _, rfl, rfl, rfl, H5.out, hid (fun s hs => by rw [HOUT.out, HS.out]), hid (fun _ => hS1), hid (fun _ => rfl), hid (fun h => absurd rfl h)⟩
        case round =>
          clear H5
          obtain ⟨k, j, fr, L2, hj, hkS, rfl, rfl, rfl, HT, HQ, HK1, HN, HF⟩ := hrel
          rcases Nat.eq_zero_or_pos j with hj0 | hj0
          · subst hj0
            --@x1
            go_wp2
            go_ret
            have hT := HT.out
            refine ⟨hT.ls.below HLX.out.below, gl, n, Nat.le_trans HLX.out.below.size hT.glW, rfl, fun q hq => ?_⟩
            rw [Nat.zero_add, hT.row.cell hq, if_pos (by rw [HB0.out]; omega)]
          · obtain ⟨k', rfl⟩ : ∃ k', k = k' + 1 := ⟨k - 1, by have := HK1.out hj0; omega⟩
            have hjp : (0 : Int) < (j : Int) := by omega
            rw [show ((k' + 1 : Nat) : Int) = (k' : Int) + 1 by omega]
            go_upto_if 74 with fail
            go_cut [13, 14, 17, 18] (fun rv fv iv lv wd => ∃ (fr : Nat) (L2 : List Nat) (i : Nat) (lw : Int), fv = .int .i64 (fr : Int) ∧ iv = .int .i64 (i : Int) ∧ lv = .int .i64 lw ∧ Hid (cutOf lev (ofN be) k' j = (i, lw)) ∧ Hid (LT w W1 pb (.slice (some ⟨la, 0, none⟩) R lz) (.slice (some ⟨ba, 0, none⟩) (R + 1) bz) (.slice (some ⟨da, 0, none⟩) D dz) (.slice (some ⟨ta, 0, none⟩) R tz) gl n R sn (gl + 1) lev be out u9 L rv L2 fr (fun s => if be j ≤ s then out s else 0) wd) ∧ Hid (L2 = [] → rv = .slice none 0 0) ∧ Hid (L2 ≠ [] → 1 ≤ fr ∧ k' + 1 ≤ fr + L2.length))
            case first =>
              rcases Nat.eq_zero_or_pos k' with hk0 | hk0
              · subst hk0
                --@m1
                obtain ⟨c0, -, hpbl⟩ := HT.out.ls.cells
                have hjl : (j : Int) ≤ (lz : Int) := by have := HLX.out.lz1; omega
                have hcz : ∀ q, q < ((List.range R).map lev).length → wr.cell? ⟨la, 0 + q, none⟩ = some (.int .i64 (((List.range R).map lev).getD q 0)) := by
                  intro q hq
                  simp only [List.length_map, List.length_range] at hq
                  rw [HT.out.ls.xs HLX.out.al HLX.out.xl q hq]
                  simp [List.getD, hq]
                have hC := Try.slices_Max_int la 0 j lz ((List.range R).map lev) wr hj0 (by simp; omega) (by omega) hcz
                rw [maxOf_need lev ((List.range R).map lev) (fun q hq => by simp only [List.length_map, List.length_range] at hq; simp [List.getD, hq]) (fun q hq => by simp only [List.length_map, List.length_range] at hq; exact (HLX.out.lb.lev0 q hq).1) j hj0 (by simp; omega)] at hC
                have HC := hid hC
                clear hC hcz
                obtain ⟨nd, hnd⟩ : ∃ nd, need lev 0 j = nd := ⟨_, rfl⟩
                have HND := hid hnd
                clear hnd
                go_wp2_with fail
                refine Calls.mono HC.out ?_
                rintro e w6 ⟨rfl, hw6⟩
                rw [hw6, HND.out]
                clear hw6
                go_wp2_with fail
                go_meet
                case rel => exact ⟨fr, L2, 0, nd, rfl, rfl, rfl, hid (by rw [← HND.out]; rfl), HT, HN, HF⟩
              · obtain ⟨m, rfl⟩ : ∃ m, k' = m + 1 := ⟨k' - 1, by omega⟩
                rw [show ((m + 1 : Nat) : Int) = (m : Int) + 1 by omega]
                have hm1 : ((m : Int) + 1 + 1 == 1) = false := by
                  have : ¬ ((m : Int) + 1 + 1 = 1) := by omega
                  simp [this]
                go_upto_region 25 with fail
                go_cut [89] (fun c wd => ∃ rm : Bool, c = .bool rm ∧ wr = wd ∧ Hid (rm = false → L2 ≠ [] ∧ fr ≤ m + 1))
                case first =>
                  --@m2
                  rcases L2 with _ | ⟨q0, L3⟩
                  · have heq : ∀ X : World, (binOp .eql 75 u13 (.slice none 0 0)).run Try.prog X = .ok (.bool true) X := fun X => by rw [HN.out rfl]; rfl
                    have heg : ∀ X : World, (eqGuard .eql 75 (.tmp 82) (.const (.slice none 0 0)) u13 (.slice none 0 0)).run Try.prog X = .ok () X := fun X => by rw [HN.out rfl]; rfl
                    go_wp2_with fail
                    go_meet
                    case rel => exact ⟨true, rfl, rfl, hid (fun h => by cases h)⟩
                  · have heq : ∀ X : World, (binOp .eql 75 u13 (.slice none 0 0)).run Try.prog X = .ok (.bool false) X := fun X => by
                      obtain ⟨q, z, e, -⟩ := HT.out.rows.at (i := 0) (by simp)
                      rw [e]
                      rfl
                    have heg : ∀ X : World, (eqGuard .eql 75 (.tmp 82) (.const (.slice none 0 0)) u13 (.slice none 0 0)).run Try.prog X = .ok () X := fun X => by
                      obtain ⟨q, z, e, -⟩ := HT.out.rows.at (i := 0) (by simp)
                      rw [e]
                      rfl
                    rcases Nat.lt_or_ge (m + 1) fr with hlt | hge
                    · have hlt1 : decide ((m : Int) + 1 < (fr : Int)) = true := by simp; omega
                      have hlt2 : (m : Int) + 1 < (fr : Int) := by omega
                      go_wp2_with fail
                      go_meet
                      case rel => exact ⟨true, rfl, rfl, hid (fun h => by cases h)⟩
                    · have hlt1 : decide ((m : Int) + 1 < (fr : Int)) = false := by simp; omega
                      have hlt2 : (fr : Int) ≤ (m : Int) + 1 := by omega
                      go_wp2_with fail
                      go_meet
                      case rel => exact ⟨false, rfl, rfl, hid (fun _ => ⟨by simp, hge⟩)⟩
                case rest =>
                  obtain ⟨rm, rfl, rfl, HRM⟩ := hcut
                  go_upto_if 89 with fail
                  go_cut [13, 14] (fun rv fv wd => ∃ (fr : Nat) (L2 : List Nat), fv = .int .i64 (fr : Int) ∧ Hid (LT w W1 pb (.slice (some ⟨la, 0, none⟩) R lz) (.slice (some ⟨ba, 0, none⟩) (R + 1) bz) (.slice (some ⟨da, 0, none⟩) D dz) (.slice (some ⟨ta, 0, none⟩) R tz) gl n R sn (gl + 1) lev be out u9 L rv L2 fr (fun s => if be j ≤ s then out s else 0) wd) ∧ Hid (1 ≤ fr ∧ fr ≤ m + 1 ∧ m + 1 + 1 ≤ fr + L2.length))
                  case first =>
                    cases rm with
                    | false =>
                      --@m3
                      go_wp2_with fail
                      go_meet
                      case rel =>
                        obtain ⟨h1, h2⟩ := HRM.out (by simp)
                        have h3 := HF.out h1
                        exact ⟨fr, L2, rfl, HT, hid ⟨h3.1, h2, h3.2⟩⟩
                    | true =>
                      --@m4
                      clear HRM HF HN
                      obtain ⟨c, hcd⟩ : ∃ c : Nat, m / sn = c := ⟨_, rfl⟩
                      have hci : ((m : Int) + 1 + 1 - 2) / (sn : Int) = (c : Int) := by rw [← hcd, show (m : Int) + 1 + 1 - 2 = (m : Int) by omega]; simp
                      have hcm : c * sn ≤ m := by rw [← hcd]; exact Nat.div_mul_le_self m sn
                      have hcm2 : m < (c + 1) * sn := by rw [← hcd]; have := Nat.div_add_mod m sn; have := Nat.mod_lt m (show 0 < sn by omega); rw [Nat.add_mul, Nat.mul_comm]; omega
                      have hcL : c < L.length := HLL2.out c (by omega)
                      go_upto_region 27 with fail
                      rw [hci]
                      obtain ⟨kq, kz, ekv, hkc⟩ := HT.out.kept.at hcL
                      obtain ⟨rx, rz, erv⟩ := HT.out.rows.shape
                      obtain ⟨gc, hgc⟩ : ∃ gc, L.getD c 0 = gc := ⟨_, rfl⟩
                      have hkrow := HT.out.kept.row c hcL
                      have hkne := HT.out.keptNe c hcL
                      rw [hgc] at hkc hkrow hkne
                      subst ekv erv
                      have hkc2 : wr.cell? ⟨kq, c, none⟩ = some (.slice (some ⟨gc, 0, none⟩) (R + 1) (R + 1)) := hkc
                      have hcl3 : (c : Int) < (L.length : Int) := by omega
                      have hwm : IntKind.i64.wrap ((c : Int) * (sn : Int)) = (c : Int) * (sn : Int) := by
                        have e : (c : Int) * (sn : Int) = ((c * sn : Nat) : Int) := by simp
                        rw [e]
                        exact wrap_mid (by omega) (by omega)
                      have hwa : IntKind.i64.wrap ((c : Int) * (sn : Int) + 1) = (c : Int) * (sn : Int) + 1 := by
                        have e : (c : Int) * (sn : Int) = ((c * sn : Nat) : Int) := by simp
                        rw [e]
                        exact wrap_mid (by omega) (by omega)
                      have HTc := hid (HT.out.cut rfl (c * sn + 1))
                      have HKR := hid hkrow
                      have HKN := hid hkne
                      have HCM := hid hcm
                      have HCM2 := hid hcm2
                      have HCI := hid hci
                      clear HT hkc hkrow hkne hgc hci hcd hcm hcm2
                      go_cut [13, 14] (fun rv fv wd => fv = .int .i64 ((c : Int) * (sn : Int) + 1) ∧ Hid (LT w W1 pb (.slice (some ⟨la, 0, none⟩) R lz) (.slice (some ⟨ba, 0, none⟩) (R + 1) bz) (.slice (some ⟨da, 0, none⟩) D dz) (.slice (some ⟨ta, 0, none⟩) R tz) gl n R sn (gl + 1) lev be out (.slice (some ⟨kq, 0, none⟩) L.length kz) L rv [gc] (c * sn + 1) (fun s => if be j ≤ s then out s else 0) wd))
                      case first =>
                        have hBX : Below wr.heap.size wr (wr.alloc (.cells #[.slice (some ⟨gc, 0, none⟩) (R + 1) (R + 1)] 22)).drew := ((Below.refl _ _).alloc (Nat.le_refl _) _).drew
                        have HTX := hid (HTc.out.later HLX.out.alt hBX)
                        have HSRC : Hid ((wr.alloc (.cells #[.slice (some ⟨gc, 0, none⟩) (R + 1) (R + 1)] 22)).drew.cell? ((⟨wr.heap.size, 0, none⟩ : Addr).add 0) = some (slv R gc)) := hid (new_cells wr [slv R gc] 22 0 (slv R gc) rfl)
                        have HBS := hid HTX.out.b2s
                        have HKX : Hid ((wr.alloc (.cells #[.slice (some ⟨gc, 0, none⟩) (R + 1) (R + 1)] 22)).drew.rowIs gc 2 (R + 1) (fun q => .int .i64 (rowOf lev (ofN be) (c * sn) q))) := hid (rowIs_of_block HKR.out ((othK_later hBX).block _ (oth_row HKR.out (by decide))))
                        clear hBX HTc HKR
                        go_region_law (first
                          | (refine step_append_22 rfl _ _ rfl (gl + 1) _ [] R gc rfl HTX.out.rows.own _ rfl HSRC.out (by simp) HBS.out ?_; intro x' z' w8 ho8 hg8; have HO8 := hid ho8; have HG8 := hid hg8; clear ho8 hg8))
                        all_goals
                          go_wp2_with fail
                          go_meet
                          case rel => exact ⟨rfl, hid (HTX.out.push HLX.out.alt HO8.out HG8.out HKX.out HKN.out)⟩
                      case rest =>
                        clear HTc HKR HKN hkc2 hcl3 hwm hwa
                        obtain ⟨rfl, HT⟩ := hcut
                        have hf3m : c * sn + 1 ≤ m + 1 := by have := HCM.out; omega
                        obtain ⟨f3, hf3⟩ : ∃ f3, c * sn + 1 = f3 := ⟨_, rfl⟩
                        have hf3i : (c : Int) * (sn : Int) + 1 = (f3 : Int) := by rw [← hf3]; simp
                        have h1f3 : 1 ≤ f3 := by omega
                        rw [hf3] at HT hf3m
                        rw [hf3i]
                        clear hf3i hf3
                        go_wp2_with fail
                        go_loopw [13] (fun rv wr => ∃ L2 : List Nat, 1 ≤ L2.length ∧ f3 + L2.length ≤ m + 1 + 1 ∧ Hid (LT w W1 pb (.slice (some ⟨la, 0, none⟩) R lz) (.slice (some ⟨ba, 0, none⟩) (R + 1) bz) (.slice (some ⟨da, 0, none⟩) D dz) (.slice (some ⟨ta, 0, none⟩) R tz) gl n R sn (gl + 1) lev be out (.slice (some ⟨kq, 0, none⟩) L.length kz) L rv L2 f3 (fun s => if be j ≤ s then out s else 0) wr)) (fun rv _ => m + 1 + 1 - f3 - lenOf rv)
                        case atStart => exact ⟨[gc], by simp, by simp; omega, HT⟩
                        case round =>
                          clear HT
                          obtain ⟨L2, hl2, hl3, HT⟩ := hrel
                          obtain ⟨l1, hl1⟩ : ∃ l1, L2.length = l1 + 1 := ⟨L2.length - 1, by omega⟩
                          obtain ⟨q, z, erv, hqc⟩ := HT.out.rows.at (i := l1) (by omega)
                          subst erv
                          obtain ⟨gp, hgp⟩ : ∃ gp, L2.getD l1 0 = gp := ⟨_, rfl⟩
                          have hprow := HT.out.rows.row l1 (by omega)
                          rw [hgp] at hqc hprow
                          have hqc2 : wr.cell? ⟨q, l1, none⟩ = some (.slice (some ⟨gp, 0, none⟩) (R + 1) (R + 1)) := hqc
                          have HL1 := hid hl1
                          have HPR := hid hprow
                          rw [hl1] at hl3
                          rw [hl1]
                          clear hqc hgp hl1 hl2 hprow
                          rcases Nat.lt_or_ge (f3 + (l1 + 1)) (m + 1 + 1) with hlt | hge
                          · have hlt1 : (l1 : Int) + 1 < (m : Int) + 1 + 1 - (f3 : Int) := by omega
                            have hl11 : (l1 : Int) < (l1 : Int) + 1 := by omega
                            have HC := hid (HT.out.ls.next HLX.out HPR.out)
                            go_wp2_with fail
                            refine Calls.mono HC.out ?_
                            rintro e w9 ⟨g4, rfl, hg4, HS9, HR9, HO9⟩
                            simp only [slv]
                            have HT9 := hid (HT.out.keep HS9.out HO9.out)
                            have HG4 : Hid (g4 ≠ gl) := hid (by have := HT.out.b2s; omega)
                            have HOW := hid HT9.out.rows.own
                            have HB9 := hid HT9.out.b2s
                            have HLn : Hid (L2.length + 1 ≤ 1099511627776) := hid (by rw [HL1.out]; omega)
                            have HR9' : Hid (w9.rowIs g4 2 (R + 1) (fun q => .int .i64 (rowOf lev (ofN be) (f3 - 1 + L2.length) q))) := hid (by rw [HL1.out]; exact HR9.out)
                            clear HT HC HS9 HR9 HO9 hqc2 HPR hg4
                            go_wp2_with (first
                              | (refine wpList_app22 (base := gl + 1) (v := .slice (some ⟨q, 0, none⟩) (l1 + 1) z) (L := L2) (R := R) (g := g4) (t := 22) (X := w9) rfl _ _ rfl rfl rfl (by have := HOW.out; rw [HL1.out] at this ⊢; exact this) HLn.out HB9.out ?_; intro x' z' w10 ho10 hg10)
                              | fail)
                            go_roundw
                            case rel =>
                              have h9 := HT9.out
                              rw [HL1.out] at h9
                              refine ⟨L2 ++ [g4], by simp, by simp [HL1.out]; omega, hid (h9.push HLX.out.alt ho10.out hg10.out HR9'.out HG4.out)⟩
                            case measure => simp [lenOf, HL1.out]; omega
                          · have hge1 : (m : Int) + 1 + 1 - (f3 : Int) ≤ (l1 : Int) + 1 := by omega
                            go_wp2_with fail
                            go_meet
                            case rel =>
                              have h9 := HT.out
                              rw [HL1.out] at h9
                              exact ⟨f3, L2, rfl, hid h9, hid ⟨h1f3, hf3m, by rw [HL1.out]; exact hge⟩⟩
                  case rest =>
                    --@m5
                    clear HT HN HF HRM
                    obtain ⟨fr2, L4, rfl, HT, HF⟩ := hcut
                    obtain ⟨hf1, hf2, hf3⟩ := HF.out
                    obtain ⟨ix, hix⟩ : ∃ ix, m + 1 = fr2 + ix := ⟨m + 1 - fr2, by omega⟩
                    have hixl : ix < L4.length := by omega
                    have hixi : (m : Int) + 1 - (fr2 : Int) = (ix : Int) := by omega
                    obtain ⟨q, z, erv, hqc⟩ := HT.out.rows.at hixl
                    have hprow := HT.out.rows.row ix hixl
                    obtain ⟨gp, hgp⟩ : ∃ gp, L4.getD ix 0 = gp := ⟨_, rfl⟩
                    rw [hgp] at hqc hprow
                    have hqc2 : wc.cell? ⟨q, ix, none⟩ = some (.slice (some ⟨gp, 0, none⟩) (R + 1) (R + 1)) := hqc
                    rw [show fr2 - 1 + ix = m by omega] at hprow
                    obtain ⟨c0, c1, hpbl⟩ := HT.out.ls.cells
                    have hC := split_any pb la 0 R lz lev ba 0 (R + 1) bz (ofN be) gp 0 (R + 1) (R + 1) (rowOf lev (ofN be) m) j wc c0 c1 (HT.out.ls.xs HLX.out.al HLX.out.xl) (HT.out.ls.xs HLX.out.ab HLX.out.xb) (fun q hq => by rw [Nat.zero_add]; exact hprow.cell hq) hj (by omega) (by omega) (by omega)
                    obtain ⟨a, hcut2, hspl⟩ := spl_ok (row_bd HLX.out.lb m) hj hj0
                    rw [hspl] at hC
                    have HCE : Hid (cutOf lev (ofN be) (m + 1) j = (a, need lev a (j - a))) := hid (by
                      unfold cutOf
                      rw [if_neg (by omega), Nat.add_sub_cancel, hspl]
                      rfl)
                    have hixl2 : (ix : Int) < (L4.length : Int) := by omega
                    obtain ⟨nd, hnd⟩ : ∃ nd, need lev a (j - a) = nd := ⟨_, rfl⟩
                    rw [hnd] at HCE hC
                    subst erv
                    have HC := hid hC
                    have HH := hid (And.intro hf1 hf3)
                    clear hC hspl hcut2 hnd hprow hqc hgp hf1 hf2 hf3 hix HF
                    go_wp2_with fail
                    refine Calls.mono HC.out ?_
                    rintro e w9 ⟨rfl, hB9⟩
                    have HT9 := hid (HT.out.later HLX.out.alt hB9)
                    clear hB9 HC HT hqc2 c0 c1 hpbl
                    go_wp2_with fail
                    go_meet
                    case rel => exact ⟨fr2, L4, a, nd, rfl, rfl, rfl, HCE, HT9, hid (fun h => by rw [h] at hixl; simp at hixl), hid (fun _ => HH.out)⟩
            case rest =>
              --@m6
              clear HT HN HF
              obtain ⟨fr2, L4, i2, lw, rfl, rfl, rfl, HCE, HT, HN, HF⟩ := hcut
              obtain ⟨a1, a2, a3, -⟩ := cutOf_ok HLX.out.lb k' hj hj0
              rw [HCE.out] at a1 a2 a3
              have hij : i2 < j := a1
              have hbij : be i2 ≤ be j := HBM.out i2 j (by omega) hj
              have hbjn : be j ≤ n := by have := HBM.out j R hj (Nat.le_refl _); rw [HBE.out] at this; exact this
              obtain ⟨c0, c1, hpbl⟩ := HT.out.ls.cells
              have g0 := HT.out.ls.xs HLX.out.ab HLX.out.xb i2 (by omega)
              rw [Nat.zero_add] at g0
              obtain ⟨bi, hbi⟩ : ∃ bi, be i2 = bi := ⟨_, rfl⟩
              obtain ⟨bj, hbj⟩ : ∃ bj, be j = bj := ⟨_, rfl⟩
              have g0' : wc.cell? ⟨ba, i2, none⟩ = some (.int .i64 (bi : Int)) := by rw [g0, ofN, hbi]
              have hi2R : (i2 : Int) < (R : Int) + 1 := by omega
              have hjR : (j : Int) < (R : Int) + 1 := by omega
              have HKZ : Hid (k' = 0 → i2 = 0) := hid a3
              rw [hbi, hbj] at hbij
              rw [hbj] at hbjn
              have HBI := hid hbi
              have HBJ := hid hbj
              clear a1 a2 a3 g0 hbi hbj c0
              go_wp2_with fail
              clear g0' c1 hpbl
              go_loopw [20] (fun sv wr => ∃ s : Nat, bi ≤ s ∧ s ≤ bj ∧ sv = .int .i64 (s : Int) ∧ Hid (LT w W1 pb (.slice (some ⟨la, 0, none⟩) R lz) (.slice (some ⟨ba, 0, none⟩) (R + 1) bz) (.slice (some ⟨da, 0, none⟩) D dz) (.slice (some ⟨ta, 0, none⟩) R tz) gl n R sn (gl + 1) lev be out u9 L u13 L4 fr2 (fun x => if bj ≤ x ∨ (bi ≤ x ∧ x < s) then out x else 0) wr)) (fun sv _ => bj - (intOf sv).toNat)
              case atStart => exact ⟨bi, Nat.le_refl _, hbij, rfl, hid (HT.out.congr (fun s hs => by
                rw [HBJ.out]
                by_cases e : bj ≤ s
                · rw [if_pos e, if_pos (.inl e)]
                · rw [if_neg e, if_neg (by omega)]))⟩
              case round =>
                clear HT
                obtain ⟨s, hs1, hs2, rfl, HT⟩ := hrel
                obtain ⟨-, c1, hpbl⟩ := HT.out.ls.cells
                have g0 := HT.out.ls.xs HLX.out.ab HLX.out.xb j (by omega)
                rw [Nat.zero_add] at g0
                have g0' : wr.cell? ⟨ba, j, none⟩ = some (.int .i64 (bj : Int)) := by rw [g0, ofN, HBJ.out]
                clear g0
                rcases Nat.lt_or_ge s bj with hlt | hge
                · have hlt1 : (s : Int) < (bj : Int) := by omega
                  have hsn : (s : Int) < (n : Int) := by omega
                  have r1 := HT.out.row.cell (i := s) (by omega)
                  have r2 := HT.out.row.frozen s
                  rw [if_neg (by omega)] at r1
                  go_wp2_with fail
                  go_roundw
                  case rel =>
                    refine ⟨s + 1, by omega, by omega, by first | rfl | go_num, hid ((HT.out.lay HLX.out.alt s lw).congr (fun x hx => ?_))⟩
                    by_cases e : x = s
                    · rw [if_pos e, if_pos (by omega), e, HQ.out s (by rw [HBJ.out]; omega), lvf_hi hj0 (by rw [HCE.out]; simp only [ofN, HBI.out]; omega), HCE.out]
                    · rw [if_neg e]
                      by_cases e2 : bj ≤ x ∨ (bi ≤ x ∧ x < s)
                      · rw [if_pos e2, if_pos (by omega)]
                      · rw [if_neg e2, if_neg (by omega)]
                  case measure => simp [intOf]; omega
                · have hge1 : (bj : Int) ≤ (s : Int) := by omega
                  go_wp2_with fail
                  go_roundw
                  case rel =>
                    refine ⟨k', i2, fr2, L4, by omega, by omega, rfl, by first | rfl | go_num, rfl, hid (HT.out.congr (fun x hx => ?_)), hid (fun x hx => ?_), hid (fun h0 => ?_), HN, hid (fun h => ?_)⟩
                    · rw [HBI.out]
                      by_cases e : bi ≤ x
                      · rw [if_pos e, if_pos (by omega)]
                      · rw [if_neg e, if_neg (by omega)]
                    · have h1 : x < be j := by rw [HBJ.out]; rw [HBI.out] at hx; omega
                      have h2 := HQ.out x h1
                      rw [lvf_lo hj0 (by rw [HCE.out]; exact hx), HCE.out] at h2
                      exact h2
                    · rcases Nat.eq_zero_or_pos k' with e | e
                      · have := HKZ.out e; omega
                      · exact e
                    · have := HF.out h
                      exact ⟨this.1, by omega⟩
                  case measure => simp [intOf]; omega
end Go.Proofs.Qxb6614303a

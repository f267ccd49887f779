/-
  Seat b6614303a. nextRow (28): the next row of least costs.
-/
import Derived.Test.Qxb6614303aNx
import Derived.Handy
import Derived.Deep.DeepCutAuto
import Derived.Deep.CutBlock
namespace Go.Proofs.Qxb6614303a
open Go.RowKit
set_option linter.unusedVariables false

set_option maxRecDepth 100000 in
set_option maxHeartbeats 40000000 in
theorem next_any (A : Nat → Prop) (b la lz ba bz da dz ta tz pa pz ln D : Nat) (lev bef dis prev : Nat → Int) (lat : Nat → Nat) (x1 x2 : Value) (nds1 nds2 : List Nd) (lg2 : List Chg) (w : World)
    (hp : P2 A w b (.slice (some ⟨la, 0, none⟩) ln lz) (.slice (some ⟨ba, 0, none⟩) (ln + 1) bz) (.slice (some ⟨da, 0, none⟩) D dz) (.slice (some ⟨ta, 0, none⟩) ln tz) x1 nds1 x2 nds2 lg2)
    (hc : NC A w la ba da ta pa ln D lev bef dis prev lat) (hbz : ln + 1 ≤ bz) (hln : 0 < ln) (hln2 : ln ≤ 1024) (hD : 0 < D) (hD2 : D ≤ 1024) :
    Calls Try.prog 28 #[.pointer (some ⟨b, 0, none⟩), .slice (some ⟨pa, 0, none⟩) (ln + 1) pz] w (NextEnd A b (.slice (some ⟨la, 0, none⟩) ln lz) (.slice (some ⟨ba, 0, none⟩) (ln + 1) bz) (.slice (some ⟨da, 0, none⟩) D dz) (.slice (some ⟨ta, 0, none⟩) ln tz) (ln + 1) (nxt lev bef prev) w) := by
  obtain ⟨v0, hv0⟩ : ∃ v, Value.slice (some ⟨la, 0, none⟩) ln lz = v := ⟨_, rfl⟩
  obtain ⟨v3, hv3⟩ : ∃ v, Value.slice (some ⟨ta, 0, none⟩) ln tz = v := ⟨_, rfl⟩
  rw [hv0, hv3] at hp ⊢
  obtain ⟨c0, c1, c2, c3, hblt, hnA, halt⟩ := hp.cells
  have HC := hid (reset1_p2 (hp.later (Below.refl _ _).drew) (some ⟨da, 0, none⟩) D dz)
  have HNC := hid hc
  have HV0 := hid hv0
  have HV3 := hid hv3
  have HNA := hid hnA
  have HALT := hid halt
  have hl1 : (1 : Int) ≤ (ln : Int) + 1 := by omega
  have hl2 : (ln : Int) + 1 ≤ 1025 := by omega
  have hmk := fun X : World => run_make_row' (P := Try.prog) 22 2 (.int .i64 0) 8 Try.underlying22 info2 rfl .i64 .i64 (ln + 1) (by omega) (by omega) X
  have HMK : Hid (∀ X : World, _) := hmk
  clear hp hc hv0 hv3 hnA halt c0 c3 hmk
  go_enter Try.func28, Try.ntmps28
  go_upto_region 2 with fail
  go_cut [] (fun wc => Hid (P2 A wc b v0 (.slice (some ⟨ba, 0, none⟩) (ln + 1) bz) (.slice (some ⟨da, 0, none⟩) D dz) v3 (.slice (some ⟨da, 0, none⟩) D dz) [] x2 nds2 lg2) ∧ Hid (Keeps A w wc))
  case first =>
    --@f1
    go_region_law (first
      | (go_simp; go_at_call 44; go_must (refine Calls.mono HC.out ?_; rintro e w2 ⟨rfl, hp2, hk2⟩)))
    all_goals
      go_wp2_with fail
      go_meet
      case rel => exact ⟨hp2, ⟨hk2.out.os, hk2.out.tape, hk2.out.output, hk2.out.size, fun k hk => hk2.out.block k (.inl hk)⟩⟩
  case rest =>
    obtain ⟨HP2, HK2⟩ := hcut
    clear c1 c2 HC
    obtain ⟨-, c1, -, -, hblt2, -, -⟩ := HP2.out.cells
    have HC := hid (reset2_p2 (HP2.out.later (Below.refl _ _).drew) (some ⟨ba, 1, none⟩) ln (bz - 1))
    have hbz1 : ¬ bz = 1 := by omega
    have hbz2 : (ln : Int) + 1 ≤ (bz : Int) := by omega
    clear HP2
    go_upto_region 3 with fail
    go_cut [] (fun wd => Hid (P2 A wd b v0 (.slice (some ⟨ba, 0, none⟩) (ln + 1) bz) (.slice (some ⟨da, 0, none⟩) D dz) v3 (.slice (some ⟨da, 0, none⟩) D dz) [] (.slice (some ⟨ba, 1, none⟩) ln (bz - 1)) [] []) ∧ Hid (Keeps A w wd))
    case first =>
      --@f2
      go_region_law (first
        | (go_simp; go_at_call 44; go_must (refine Calls.mono HC.out ?_; rintro e w2 ⟨rfl, hp2, hk2⟩)))
      all_goals
        go_wp2_with fail
        go_meet
        case rel => exact ⟨hp2, HK2.out.trans ⟨hk2.out.os, hk2.out.tape, hk2.out.output, hk2.out.size, fun k hk => hk2.out.block k (.inl hk)⟩⟩
    case rest =>
      clear c1 HC HK2
      obtain ⟨HP3, HK3⟩ := hcut
      obtain ⟨-, -, -, -, hblt3, -, -⟩ := HP3.out.cells
      have HC := hid (empty2_p2 HP3.out (by simp))
      clear HP3
      go_wp2_with fail
      refine Calls.mono HC.out ?_
      rintro e w4 ⟨rfl, hp4, hk4⟩
      have HK4 : Hid (Keeps A w w4) := hid (HK3.out.trans ⟨hk4.out.os, hk4.out.tape, hk4.out.output, hk4.out.size, fun k hk => hk4.out.block k (.inl hk)⟩)
      clear hk4 HC HK3 hblt3 hblt2
      have hmk := HMK.out
      simp only [Int.natCast_add, Int.cast_ofNat_Int] at hmk
      go_wp2_with fail
      clear hmk HMK
      have hBa : Below w4.heap.size w4 (w4.alloc (.cells (madeCells #[.int .i64 0] (ln + 1)) 2)) := (Below.refl _ _).alloc (Nat.le_refl _) _
      have hrow := World.rowIs_made w4 (.int .i64 0) (ln + 1) 2
      obtain ⟨W, hW⟩ : ∃ W, w4.alloc (.cells (madeCells #[.int .i64 0] (ln + 1)) 2) = W := ⟨_, rfl⟩
      obtain ⟨g, hg⟩ : ∃ g, w4.heap.size = g := ⟨_, rfl⟩
      have hgw : w.heap.size ≤ g := by have := HK4.out.size; omega
      have H0 : Hid (NInv A w b v0 (.slice (some ⟨ba, 0, none⟩) (ln + 1) bz) (.slice (some ⟨da, 0, none⟩) D dz) v3 (.slice (some ⟨da, 0, none⟩) D dz) (.slice (some ⟨ba, 1, none⟩) ln (bz - 1)) g ln D lev bef dis prev (.slice none 0 0) 0 W) := by
        refine hid ⟨[], [], ⟨?_, ?_, ?_, ⟨rfl, .inl ⟨rfl, rfl⟩⟩, HALT.out, hgw⟩, rfl, fun i hi => absurd hi (by simp), by simp, by simp⟩
        · rw [← hW]; exact HK4.out.below hBa HALT.out
        · rw [← hW]; exact hp4.out.later hBa
        · rw [← hW, ← hg]
          refine World.rowIs.congr hrow (fun q hq => ?_)
          by_cases e : q ≤ 0
          · have e0 : q = 0 := by omega
            subst e0
            simp [nxt]
          · rw [if_neg e]
      rw [hW, hg]
      clear hW hg hBa hrow hp4 HK4
      go_loopw [5, 8] (fun st jj wr => ∃ k : Nat, k ≤ ln ∧ jj = .int .i64 ((k : Int) + 1) ∧ Hid (NInv A w b v0 (.slice (some ⟨ba, 0, none⟩) (ln + 1) bz) (.slice (some ⟨da, 0, none⟩) D dz) v3 (.slice (some ⟨da, 0, none⟩) D dz) (.slice (some ⟨ba, 1, none⟩) ln (bz - 1)) g ln D lev bef dis prev st k wr)) (fun _ jj _ => ln + 1 - (intOf jj).toNat)
      case atStart => exact ⟨0, Nat.zero_le _, rfl, H0.out⟩
      case round =>
        clear H0
        obtain ⟨k, hk, rfl, HN⟩ := hrel
        by_cases hkl : k < ln
        · have hkl1 : (k : Int) + 1 < (ln : Int) + 1 := by omega
          have hkl2 : (k : Int) < (ln : Int) := by omega
          obtain ⟨S, nds, hNW, hStk, hSafe, hlen1, hlen2⟩ := HN.out
          obtain ⟨c0, c1, c2, c3, hbw, -, -⟩ := hNW.p2.cells
          rw [← HV0.out] at c0
          rw [← HV3.out] at c3
          have g0 := hNW.xs HNC.out.al HNC.out.xl k (by omega)
          rw [Nat.zero_add] at g0
          have HNWk := hid hNW
          have HStk := hid hStk
          have HSafe := hid hSafe
          have Hl1 := hid hlen1
          have Hl2 := hid hlen2
          clear HN hNW hStk hSafe hlen1 hlen2
          obtain ⟨lvk, hlvk⟩ : ∃ lvk, lev k = lvk := ⟨_, rfl⟩
          rw [hlvk] at g0
          have HLV := hid hlvk
          clear hlvk
          go_upto_region 9 with fail
          go_cut [9, 10] (fun iv lv wd => iv = .int .i64 k ∧ lv = .int .i64 lvk ∧ Hid (Below wr.heap.size wr wd))
          case first =>
            --@f3
            go_quiet (fail)
            all_goals
              go_wp2_with fail
              go_meet
              case rel => exact ⟨by first | rfl | go_num, rfl, hid (bdrewN (Below.refl _ _) _)⟩
          case rest =>
            obtain ⟨rfl, rfl, HB9⟩ := hcut
            have hNW := HNWk.out.later HB9.out
            clear HNWk HB9 c0 c1 c2 c3 g0 hbw
            obtain ⟨-, c1, -, -, hbw, -, -⟩ := hNW.p2.cells
            have g0 := hNW.xs HNC.out.ap HNC.out.xp k (by omega)
            have g1 := hNW.xs HNC.out.ab HNC.out.xb k (by omega)
            rw [Nat.zero_add] at g0 g1
            obtain ⟨pk, hpk⟩ : ∃ pk, prev k = pk := ⟨_, rfl⟩
            obtain ⟨bk', hbk⟩ : ∃ bk', bef k = bk' := ⟨_, rfl⟩
            have hwr : IntKind.i64.wrap (-bk') = -bk' := by
              have := HNC.out.bd.bef0 k (by omega)
              rw [hbk] at this
              exact wrap_mid (by omega) (by omega)
            rw [hpk] at g0
            rw [hbk] at g1
            have hkn : (k : Int) < (ln : Int) + 1 := by omega
            have hnb : nds.length + 1 ≤ 1099511627776 := by
              have h1 := Hl1.out
              have h2 : k * (ln + 1) ≤ 1024 * 1025 := Nat.mul_le_mul (by omega) (by omega)
              omega
            have HC := hid (tree1_p2 hNW.drew.p2 pk (-bk') hnb)
            have HNWk := hid hNW
            have HPK := hid hpk
            have HBK := hid hbk
            clear hNW hpk hbk hnb
            go_upto_region 10 with fail
            go_cut [11] (fun tr wd => ∃ t : T, tr = .int .i64 t.root ∧ Hid (NInn A w b v0 (.slice (some ⟨ba, 0, none⟩) (ln + 1) bz) (.slice (some ⟨da, 0, none⟩) D dz) v3 (.slice (some ⟨da, 0, none⟩) D dz) (.slice (some ⟨ba, 1, none⟩) ln (bz - 1)) g ln D lev bef dis prev u5 k S k t (nds ++ [⟨prev k, -bef k, -1, -1⟩]) wd))
            case first =>
              --@f4
              go_region_law (first
                | (go_simp; go_at_call 46; go_must (refine Calls.mono HC.out ?_; rintro e w5 ⟨rfl, hp5, hk5⟩)))
              all_goals
                go_wp2_with fail
                go_meet
                case rel =>
                  refine ⟨.node nds.length (prev k) (-bef k) .nil .nil, by simp [T.root], ?_⟩
                  refine hid ⟨?_, InOK.start hD HStk.out (HNC.out.bd.lev0 k (by omega)).1 (HNC.out.bd.goodB HNC.out.dis0 (by omega)), Safe.app HSafe.out _ _, ?_, Hl2.out⟩
                  · have := HNWk.out.drew.out hp5.out hk5.out
                    rw [← HPK.out, ← HBK.out] at this
                    exact this
                  · have := Hl1.out
                    simp only [List.length_append, List.length_cons, List.length_nil]
                    omega
            case rest =>
              clear HC c1 g0 g1 hwr HPK HBK HNWk
              obtain ⟨t0, rfl, HI0⟩ := hcut
              go_upto_block 2 with fail
              go_cut [5, 11] (fun st tr wd => ∃ (S : List G) (s : Nat) (t : T) (nds : List Nd), tr = .int .i64 t.root ∧ Hid (NInn A w b v0 (.slice (some ⟨ba, 0, none⟩) (ln + 1) bz) (.slice (some ⟨da, 0, none⟩) D dz) v3 (.slice (some ⟨da, 0, none⟩) D dz) (.slice (some ⟨ba, 1, none⟩) ln (bz - 1)) g ln D lev bef dis prev st k S s t nds wd) ∧ Hid (∀ x ∈ S, lev k < x.lv))
              case first =>
                --@loop
                go_wp2_with fail
                go_loopw [5, 11] (fun st tr wr => ∃ (S : List G) (s : Nat) (t : T) (nds : List Nd), tr = .int .i64 t.root ∧ Hid (NInn A w b v0 (.slice (some ⟨ba, 0, none⟩) (ln + 1) bz) (.slice (some ⟨da, 0, none⟩) D dz) v3 (.slice (some ⟨da, 0, none⟩) D dz) (.slice (some ⟨ba, 1, none⟩) ln (bz - 1)) g ln D lev bef dis prev st k S s t nds wr)) (fun st _ _ => lenOf st)
                case atStart => exact ⟨_, _, _, _, rfl, HI0.out⟩
                case round =>
                  clear HI0
                  obtain ⟨S1, s1, t1, nds1, rfl, HI⟩ := hrel
                  obtain ⟨sx, sz, rfl⟩ := owns_shape HI.out.1.stack
                  cases S1 with
                  | nil =>
                    --@n1
                    rw [stk_len, List.length_nil] at *
                    go_wp2_with fail
                    go_meet
                    case rel => exact ⟨_, _, _, _, rfl, HI.out, hid (fun x hx => by cases hx)⟩
                  | cons gg L =>
                    obtain ⟨q, rfl, hn1, -, d0, d1, d2, d3⟩ := owns_top (L := stk (bX bef) ln L) (d := bk (bX bef) ln gg L) HI.out.1.stack
                    obtain ⟨m, hm⟩ : ∃ m, (stk (bX bef) ln L).length = m := ⟨_, rfl⟩
                    obtain ⟨lvg, hlvg⟩ : ∃ lvg, gg.lv = lvg := ⟨_, rfl⟩
                    rw [hn1]
                    rw [hm] at d0 d1 d2 d3 ⊢
                    obtain ⟨tg, htg⟩ : ∃ tg, gg.t.root = tg := ⟨_, rfl⟩
                    obtain ⟨ml, hml1⟩ : ∃ ml, (chain (bX bef) ln L).2.length = ml := ⟨_, rfl⟩
                    obtain ⟨mn, hmn1⟩ : ∃ mn, (chain (bX bef) ln L).1.length = mn := ⟨_, rfl⟩
                    replace d0 : wr.cell? ⟨q, m * 4, none⟩ = some (.int .i64 lvg) := by rw [← hlvg]; exact d0
                    replace d1 : wr.cell? ⟨q, m * 4 + 1, none⟩ = some (.int .i64 tg) := by rw [← htg]; exact d1
                    replace d2 : wr.cell? ⟨q, m * 4 + 2, none⟩ = some (.int .i64 (ml : Int)) := by rw [← hml1]; exact d2
                    replace d3 : wr.cell? ⟨q, m * 4 + 3, none⟩ = some (.int .i64 (mn : Int)) := by rw [← hmn1]; exact d3
                    have hml : m ≤ 1024 := by
                      have := HI.out.2.2.2.2
                      rw [stk_len] at hm
                      simp only [List.length_cons] at this
                      omega
                    have HM := hid hm
                    have HLG := hid hlvg
                    have HTG := hid htg
                    have HML := hid hml1
                    have HMN := hid hmn1
                    clear hm hlvg hn1 htg hml1 hmn1
                    have hm0 : (0 : Int) < (m : Int) + 1 := by omega
                    have hm1 : (m : Int) < (m : Int) + 1 := by omega
                    have hm2 : (m : Int) ≤ 1024 := by omega
                    rcases Int.lt_or_le lvk lvg with hle | hle
                    ·
                      --@n3
                      clear d1 d2 d3
                      go_wp2_with fail
                      go_meet
                      case rel =>
                        refine ⟨gg :: L, s1, t1, nds1, rfl, ?_, hid ?_⟩
                        · have := HI.out
                          have e := HM.out
                          rw [show (stk (bX bef) ln (gg :: L)).length = m + 1 by rw [← e, stk_len, stk_len]; rfl] at this
                          exact this
                        · exact Stk.above HI.out.2.1.stk (by rw [HLG.out, HLV.out]; exact hle)
                    ·
                      --@n2
                      have hbx := World.alloc_heap_new wr (.cells #[.int .i64 lvg, .int .i64 tg, .int .i64 (ml : Int), .int .i64 (mn : Int)] 98)
                      have hlz : (m : Int) ≤ (sz : Int) := by
                        have := owns_cap HI.out.1.stack
                        have e := HM.out
                        rw [stk_len] at e
                        simp only [stk_len, List.length_cons] at this
                        omega
                      go_upto_region 14 with fail
                      have hBa : Below wr.heap.size wr (wr.alloc (.cells #[.int .i64 lvg, .int .i64 tg, .int .i64 (ml : Int), .int .i64 (mn : Int)] 98)) := (Below.refl _ _).alloc (Nat.le_refl _) _
                      obtain ⟨W, hW⟩ : ∃ W, wr.alloc (.cells #[.int .i64 lvg, .int .i64 tg, .int .i64 (ml : Int), .int .i64 (mn : Int)] 98) = W := ⟨_, rfl⟩
                      obtain ⟨bx, hbxe⟩ : ∃ bx, wr.heap.size = bx := ⟨_, rfl⟩
                      have hNW1 := HI.out.1.later hBa
                      rw [hW] at hbx hBa hNW1 ⊢
                      rw [hbxe] at hbx ⊢
                      have hNW2 := NW.pop (L := stk (bX bef) ln L) (d := bk (bX bef) ln gg L) hNW1 (by rw [stk_len, stk_len]; rfl)
                      rw [HM.out] at hNW2
                      have b1 : W.cell? ⟨bx, 1, none⟩ = some (.int .i64 tg) := by simp [World.cell?, hbx]
                      have b2 : W.cell? ⟨bx, 2, none⟩ = some (.int .i64 (ml : Int)) := by simp [World.cell?, hbx]
                      have b3 : W.cell? ⟨bx, 3, none⟩ = some (.int .i64 (mn : Int)) := by simp [World.cell?, hbx]
                      have hC := NInn.roll HI.out HNC.out hln hln2 hkl hNW2.drew.p2
                      rw [HML.out, HMN.out] at hC
                      have HC := hid hC
                      have HNW2 := hid hNW2
                      have HOX : Hid (Oth W.drew bx) := hid ⟨_, 98, hbx, by decide, by decide, by decide⟩
                      clear hW hbxe hBa hNW1 hNW2 hC hbx d0 d1 d2 d3 hlz HMN
                      go_cut [] (fun wd => Hid (NW A w b v0 (.slice (some ⟨ba, 0, none⟩) (ln + 1) bz) (.slice (some ⟨da, 0, none⟩) D dz) v3 (.slice (some ⟨da, 0, none⟩) D dz) (.slice (some ⟨ba, 1, none⟩) ln (bz - 1)) g (ln + 1) nds1 (chain (bX bef) ln L).1 (chain (bX bef) ln L).2 (fun q => if q ≤ k then nxt lev bef prev q else 0) (.slice (some ⟨q, 0, none⟩) m sz) (stk (bX bef) ln L) wd) ∧ wd.cell? ⟨bx, 1, none⟩ = some (.int .i64 tg))
                      case first =>
                        --@n4
                        go_region_law (first
                          | (go_simp; go_at_call 47; go_must (refine Calls.mono HC.out ?_; rintro e w6 ⟨rfl, hp6, hk6⟩)))
                        all_goals
                          go_wp2_with fail
                          go_meet
                          case rel => exact ⟨hid (HNW2.out.drew.out hp6.out hk6.out), (hk6.out.cell (a := ⟨bx, 1, none⟩) (.inr HOX.out)).trans b1⟩
                      case rest =>
                        --@n5
                        clear HC HNW2 b1 b2 b3 HOX HML
                        obtain ⟨HNW6, b1⟩ := hcut
                        obtain ⟨-, -, c2, -, hbw, -, -⟩ := HNW6.out.p2.cells
                        have hC := NInn.merge HI.out HNC.out hln hln2 hkl hD hD2 HNW6.out.drew.p2 (HNW6.out.drew.xs HNC.out.ad HNC.out.xd)
                        rw [HTG.out] at hC
                        have HC := hid hC
                        have hwD : IntKind.i64.wrap ((D : Int) - 1) = (D : Int) - 1 := wrap_mid (by omega) (by omega)
                        clear hC
                        go_upto_region 15 with fail
                        go_region_law (first
                          | (go_simp; go_at_call 48; go_must (refine Calls.mono HC.out ?_; rintro e w7 ⟨t', nds', ⟨rfl, hp7, hk7⟩, hm7⟩)))
                        all_goals
                          go_simp
                          go_wp2_with fail
                          go_roundw
                          case rel => exact ⟨L, gg.s, t', nds', rfl, hid (NInn.popped HI.out (by rw [HLG.out, HLV.out]; exact hle) hkl hm7.out (HNW6.out.drew.out hp7.out hk7.out))⟩
                          case measure => simp [lenOf]
              case rest =>
                clear HI0
                obtain ⟨S1, s1, t1, nds1, rfl, HI, HLT⟩ := hcut
                obtain ⟨-, -, -, c3, hbw, -, -⟩ := HI.out.1.p2.cells
                rw [← HV3.out] at c3
                have g0 := HI.out.1.xs HNC.out.at' HNC.out.xt k (by omega)
                rw [Nat.zero_add] at g0
                obtain ⟨lk, hlk⟩ : ∃ lk, lat k = lk := ⟨_, rfl⟩
                obtain ⟨bst, hbst⟩ : ∃ bst, lst dis t1 0 (D - 1) (lat k) Mx = bst := ⟨_, rfl⟩
                have hC := NInn.best HI.out HNC.out hln2 hkl hD2 HI.out.1.drew.p2 (HI.out.1.drew.xs HNC.out.ad HNC.out.xd)
                rw [hbst, hlk] at hC
                rw [hlk] at g0
                have HC := hid hC
                have HBST := hid hbst
                clear hC hbst hlk
                go_upto_region 16 with fail
                go_cut [13] (fun bv wd => bv = .int .i64 bst ∧ Hid (Below wc.heap.size wc wd))
                case first =>
                  --@r1
                  go_region_law (first
                    | (go_simp; go_at_call 49; go_must (refine Calls.mono HC.out ?_; rintro e w8 ⟨rfl, hB8⟩)))
                  all_goals
                    go_wp2_with fail
                    go_meet
                    case rel => exact ⟨rfl, hid (((Below.refl _ _).drew).trans hB8)⟩
                case rest =>
                  clear HC c3 g0 hbw
                  obtain ⟨rfl, HB8⟩ := hcut
                  have HI8 := hid (NInn.later HI.out HB8.out)
                  clear HI HB8
                  obtain ⟨ml, hml⟩ : ∃ ml, (chain (bX bef) ln S1).2.length = ml := ⟨_, rfl⟩
                  obtain ⟨mn, hmn⟩ : ∃ mn, (chain (bX bef) ln S1).1.length = mn := ⟨_, rfl⟩
                  have hC := mark2_p2 HI8.out.1.p2
                  obtain ⟨-, -, -, -, hbw, -, -⟩ := HI8.out.1.p2.cells
                  go_wp2_with fail
                  refine Calls.mono hC ?_
                  rintro e w9 ⟨rfl, hB9⟩
                  rw [hml, hmn]
                  have HI9 := hid (NInn.later HI8.out hB9)
                  have HML := hid hml
                  have HMN := hid hmn
                  clear HI8 hB9 hC hml hmn hbw
                  go_upto_region 18 with fail
                  have hbx := World.alloc_heap_new w9 (.cells #[.int .i64 (ml : Int), .int .i64 (mn : Int)] 96)
                  have hBa : Below w9.heap.size w9 (w9.alloc (.cells #[.int .i64 (ml : Int), .int .i64 (mn : Int)] 96)) := (Below.refl _ _).alloc (Nat.le_refl _) _
                  obtain ⟨W, hW⟩ : ∃ W, w9.alloc (.cells #[.int .i64 (ml : Int), .int .i64 (mn : Int)] 96) = W := ⟨_, rfl⟩
                  obtain ⟨bx, hbxe⟩ : ∃ bx, w9.heap.size = bx := ⟨_, rfl⟩
                  have hIW := NInn.later HI9.out hBa
                  rw [hW] at hbx hIW ⊢
                  rw [hbxe] at hbx ⊢
                  have b0 : W.cell? ⟨bx, 0, none⟩ = some (.int .i64 (ml : Int)) := by simp [World.cell?, hbx]
                  have b1 : W.cell? ⟨bx, 1, none⟩ = some (.int .i64 (mn : Int)) := by simp [World.cell?, hbx]
                  obtain ⟨-, c1, -, -, hbw, -, -⟩ := hIW.1.p2.cells
                  have hC := NInn.insert hIW HNC.out hln hln2 hkl hIW.1.drew.p2 (HNC.out.xX hIW.1.drew)
                  rw [HBST.out, HLV.out] at hC
                  have HC := hid hC
                  have HIW := hid hIW
                  have HOX : Hid (Oth W.drew bx) := hid ⟨_, 96, hbx, by decide, by decide, by decide⟩
                  have hw2 : IntKind.i64.wrap ((ln : Int) + 1 - 2) = (ln : Int) - 1 := by
                    rw [wrap_mid (by omega) (by omega)]
                    omega
                  have hw3 : IntKind.i64.wrap ((ln : Int) - 1) = (ln : Int) - 1 := wrap_mid (by omega) (by omega)
                  clear hbx hBa hW hbxe hIW hC HI9
                  go_cut [] (fun wd => Hid (NW A w b v0 (.slice (some ⟨ba, 0, none⟩) (ln + 1) bz) (.slice (some ⟨da, 0, none⟩) D dz) v3 (.slice (some ⟨da, 0, none⟩) D dz) (.slice (some ⟨ba, 1, none⟩) ln (bz - 1)) g (ln + 1) nds1 (chain (bX bef) ln (newG dis D lev lat k s1 t1 :: S1)).1 (chain (bX bef) ln (newG dis D lev lat k s1 t1 :: S1)).2 (fun q => if q ≤ k then nxt lev bef prev q else 0) u5 (stk (bX bef) ln S1) wd) ∧ wd.cell? ⟨bx, 0, none⟩ = some (.int .i64 (ml : Int)) ∧ wd.cell? ⟨bx, 1, none⟩ = some (.int .i64 (mn : Int)))
                  case first =>
                    --@r2
                    go_region_law (first
                      | (go_simp; go_at_call 51; go_must (refine Calls.mono HC.out ?_; rintro e w6 ⟨rfl, hp6, hk6⟩)))
                    all_goals
                      go_wp2_with fail
                      go_meet
                      case rel => exact ⟨hid (HIW.out.1.drew.out hp6.out hk6.out), (hk6.out.cell (a := ⟨bx, 0, none⟩) (.inr HOX.out)).trans b0, (hk6.out.cell (a := ⟨bx, 1, none⟩) (.inr HOX.out)).trans b1⟩
                  case rest =>
                    --@r3
                    clear HC b0 b1 HOX c1 hbw hw2 hw3
                    obtain ⟨HNW, b0, b1⟩ := hcut
                    have hsl : (stk (bX bef) ln S1).length + 1 ≤ 1099511627776 := by
                      have := HIW.out.2.2.2.2
                      rw [stk_len]
                      omega
                    have hbs : w.heap.size ≤ wc.heap.size := HNW.out.keep.size
                    have HSL := hid hsl
                    have HBS := hid hbs
                    clear hsl hbs
                    go_wp2_with (first
                      | (refine wpList_app98 (base := w.heap.size) (v := u5) (L := stk (bX bef) ln S1) (d := ⟨lvk, t1.root, ml, mn⟩) (t := 98) (X := wc) rfl _ _ rfl rfl rfl HNW.out.stack HSL.out HBS.out ?_; intro x' z' w10 ho10 hg10)
                      | fail)
                    have hNW10 := NW.push (d := ⟨lvk, t1.root, ml, mn⟩) HNW.out ho10.out hg10.out
                    have hst : stk (bX bef) ln S1 ++ [⟨lvk, t1.root, ml, mn⟩] = stk (bX bef) ln (newG dis D lev lat k s1 t1 :: S1) := by
                      rw [← HML.out, ← HMN.out, ← HLV.out]
                      rfl
                    rw [hst] at hNW10
                    have hC := NInn.ends HIW.out HNC.out HLT.out hln hln2 hkl hNW10.p2 (HNC.out.xX hNW10)
                    obtain ⟨nv, hnv⟩ : ∃ nv, nxt lev bef prev (k + 1) = nv := ⟨_, rfl⟩
                    rw [hnv] at hC
                    refine Calls.mono hC ?_
                    rintro e w11 ⟨rfl, hB11⟩
                    have hNW11 := hNW10.later hB11
                    have r1 := hNW11.row.cell (i := k + 1) (by omega)
                    have r2 := hNW11.row.frozen (k + 1)
                    rw [if_neg (by omega)] at r1
                    obtain ⟨sn, hsn⟩ : ∃ sn, (stk (bX bef) ln S1).length + 1 = sn := ⟨_, rfl⟩
                    rw [hsn] at hNW11 ⊢
                    have HNW11 := hid hNW11
                    have HNV := hid hnv
                    clear hNW10 hC hnv hNW11 hB11 ho10 hg10 hst HNW b0 b1 hsn
                    go_wp2_with fail
                    go_roundw
                    case rel =>
                      refine ⟨k + 1, by omega, by first | rfl | go_num, hid (NInn.round HIW.out HNC.out HLT.out hkl ?_)⟩
                      have := HNW11.out.lay (k + 1) nv (by omega)
                      rw [← HNV.out] at this
                      rw [← HNV.out]
                      exact this
                    case measure => simp [intOf]; omega
        ·
          --@ex
          obtain rfl : k = ln := by omega
          have hkk : ¬ (k : Int) + 1 < (k : Int) + 1 := by omega
          go_wp2
          go_ret
          obtain ⟨S, nds, hNW, -⟩ := HN.out
          refine ⟨hNW.keep, g, _, _, _, _, _, hgw, rfl, ?_, hNW.p2⟩
          exact World.rowIs.congr hNW.row (fun q hq => by rw [if_pos (by omega)])
end Go.Proofs.Qxb6614303a

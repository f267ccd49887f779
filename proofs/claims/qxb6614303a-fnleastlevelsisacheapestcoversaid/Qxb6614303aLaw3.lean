/-
  Seat b6614303a. The law of the cheapest cover (3).
-/
import Derived.Test.Qxb6614303aLaw4
import Derived.Test.Qxb6614303aCheap
namespace Go.Proofs.Qxb6614303a
open Go.RowKit
set_option linter.unusedVariables false

/-- The state of the walk along a stretch of equal levels, from s on. -/
structure TopSt (zs f : Nat → Int) (n s e : Nat) (T : Int) : Prop where
  eq : ∀ y, s ≤ y → y < e → f y = f s ∧ zs y ≤ T
  first : zs s ≤ T
  att : ∃ y, s ≤ y ∧ y < n ∧ f y = f s ∧ T = zs y
theorem TopSt.start {zs f : Nat → Int} {n s : Nat} (hs : s < n) : TopSt zs f n s s (zs s) := ⟨fun y h1 h2 => by omega, Int.le_refl _, ⟨s, Nat.le_refl _, hs, rfl, rfl⟩⟩
theorem TopSt.up {zs f : Nat → Int} {n s e : Nat} {T : Int} (h : TopSt zs f n s e T) (hse : s ≤ e) (he : e < n) (hf : f e = f s) (hT : T < zs e) : TopSt zs f n s (e + 1) (zs e) := by
  refine ⟨fun y h1 h2 => ?_, by have := h.first; omega, ⟨e, hse, he, hf, rfl⟩⟩
  by_cases e1 : y = e
  · rw [e1]; exact ⟨hf, Int.le_refl _⟩
  · have := h.eq y h1 (by omega)
    exact ⟨this.1, by omega⟩
theorem TopSt.go {zs f : Nat → Int} {n s e : Nat} {T : Int} (h : TopSt zs f n s e T) (hf : f e = f s) (hT : zs e ≤ T) : TopSt zs f n s (e + 1) T := by
  refine ⟨fun y h1 h2 => ?_, h.first, h.att⟩
  by_cases e1 : y = e
  · rw [e1]; exact ⟨hf, hT⟩
  · exact h.eq y h1 (by omega)
theorem TopSt.done {zs f : Nat → Int} {n s e : Nat} {T : Int} (h : TopSt zs f n s e T) (ht : TopOK f zs n) (hc : ∀ y, y < n → zs y ≤ f y) (hs : s < n) (hse : s ≤ e) (hst : s = 0 ∨ f s ≠ f (s - 1)) (hx : e = n ∨ (e < n ∧ f e ≠ f s)) : T = f s ∧ s < e := by
  have hlt : s < e := by
    rcases Nat.lt_or_ge s e with h1 | h1
    · exact h1
    · have e1 : e = s := by omega
      rcases hx with h2 | ⟨_, h2⟩
      · omega
      · rw [e1] at h2; exact absurd rfl h2
  refine ⟨?_, hlt⟩
  obtain ⟨y, h1, h2, h3, h4⟩ := h.att
  have h5 := hc y h2
  obtain ⟨x, g1, g2, g3, g4⟩ := ht s hs hst
  have hxe : x < e := by
    rcases Nat.lt_or_ge x e with q | q
    · exact q
    · rcases hx with h6 | ⟨_, h6⟩
      · omega
      · exact absurd (g4 e hse q) h6
  have h7 := (h.eq x g1 hxe).2
  omega
theorem sum_bd {f : Nat → Int} {n : Nat} (h : ∀ s, s < n → 0 ≤ f s ∧ f s ≤ 2199023255552) : ∀ s, s ≤ n → 0 ≤ sumTo f s ∧ sumTo f s ≤ (s : Int) * 2199023255552
  | 0, _ => by simp [sumTo]
  | s + 1, hs => by
    have h1 := sum_bd h s (by omega)
    have h2 := h s (by omega)
    rw [sumTo]
    omega

set_option maxRecDepth 100000 in
set_option maxHeartbeats 40000000 in
theorem law3_any (a0 : Option Addr) (n cap0 : Nat) (z0 : List Int) (a1 : Int) (w : World) (h0 : Arg w a0 n cap0 z0) (w1 : (Lit.int .i64 a1).wf = true) :
    Calls Try.prog 3 #[.slice a0 n cap0, .int .i64 a1] w (True4 w) := by
  have hb1 : (-9223372036854775808 : Int) ≤ a1 ∧ a1 ≤ 9223372036854775807 := by
    have h : IntKind.i64.min ≤ a1 ∧ a1 ≤ IntKind.i64.max := by simpa [Lit.wf] using w1
    exact h
  have H0 := hid h0
  clear h0 w1
  rcases Nat.lt_or_ge 1048576 n with hbig | hbig
  · have HC := hid (bytes7_big a0 n cap0 a1 w hbig)
    --@e1
    go_enter Try.func3, Try.ntmps3
    go_wp2_with fail
    refine Calls.mono HC.out ?_
    rintro e w' ⟨rfl, hw'⟩
    rw [hw']
    go_wp2
    go_ret
    exact ⟨rfl, Below.refl _ _⟩
  have HC := hid (bytes7_any a0 n cap0 a1 w hbig)
  rcases Nat.lt_or_ge 256 n with hn | hn
  · have hn1 : (256 : Int) < (n : Int) := by omega
    --@e2
    go_enter Try.func3, Try.ntmps3
    go_wp2_with fail
    refine Calls.mono HC.out ?_
    rintro e w' ⟨rfl, hw'⟩
    rw [hw']
    go_wp2
    go_ret
    exact ⟨rfl, Below.refl _ _⟩
  have hn1 : (n : Int) ≤ 256 := by omega
  rcases Int.lt_or_le a1 0 with ha1 | ha1
  ·
    --@e3
    go_enter Try.func3, Try.ntmps3
    go_wp2_with fail
    refine Calls.mono HC.out ?_
    rintro e w' ⟨rfl, hw'⟩
    rw [hw']
    go_wp2
    go_ret
    exact ⟨rfl, Below.refl _ _⟩
  obtain ⟨mc, rfl⟩ : ∃ mc : Nat, a1 = (mc : Int) := ⟨a1.toNat, by omega⟩
  obtain ⟨hb2, hb3⟩ := hb1
  clear hb2 ha1
  obtain ⟨zs, hzs⟩ : ∃ zs : Nat → Int, (fun j => z0.getD j 0) = zs := ⟨_, rfl⟩
  have HMK := hid (fun X : World => run_make_row' (P := Try.prog) 22 2 (.int .i64 0) 8 Try.underlying22 info2 rfl .i64 .i64 n (by omega) (by omega) X)
  have HZS := hid hzs
  clear hzs
  go_enter Try.func3, Try.ntmps3
  go_wp2_with fail
  refine Calls.mono HC.out ?_
  rintro e w' ⟨rfl, hw'⟩
  rw [hw']
  clear HC hw'
  go_upto_if 25 with fail
  go_cut [0] (fun v wd => ∃ (x : Option Addr) (z : Nat), v = .slice x n z ∧ Hid (SlAt wd w.heap.size x n zs) ∧ Hid (Below w.heap.size w wd))
  case first =>
    rcases H0.out with ⟨rfl, rfl, rfl, rfl⟩ | ⟨x, rfl, hl, hm, hz, hcell, hwz⟩
    ·
      --@k1
      clear HMK
      go_wp2_with fail
      go_meet
      case rel => exact ⟨none, 0, rfl, hid (.inl rfl), hid (Below.refl _ _)⟩
    ·
      --@k2
      have HCE : Hid (∀ j, j < n → w.cell? (x.add j) = some (.int .i64 (zs j))) := hid (fun j hj => by rw [← HZS.out]; exact hcell j (by omega))
      have hmk := HMK.out
      clear hcell hwz hl hm hz H0 HMK
      have HROW := hid (World.rowIs_made w (.int .i64 0) n 2)
      have HBA : Hid (Below w.heap.size w (w.alloc (.cells (madeCells #[.int .i64 0] n) 2))) := hid ((Below.refl _ _).alloc (Nat.le_refl _) _)
      have HSRC : Hid (∀ j, j < n → (w.alloc (.cells (madeCells #[.int .i64 0] n) 2)).cell? (x.add j) = some (.int .i64 (zs j))) := hid (fun j hj => keepc (HCE.out j hj) HBA.out)
      go_wp2_with (first
        | (refine wpList_copy22 rfl _ _ rfl w.heap.size n x cap0 zs rfl rfl _ HROW.out HSRC.out ?_; intro w5 hx5 hb5)
        | fail)
      go_meet
      case rel => exact ⟨some ⟨w.heap.size, 0, none⟩, n, rfl, hid (.inr ⟨_, Nat.le_refl _, rfl, hx5.out⟩), hid (hb5.out _ _ (Nat.le_refl _) HBA.out)⟩
  case rest =>
    clear H0 HZS
    obtain ⟨x, z, rfl, HSL, HB⟩ := hcut
    go_wp2_with fail
    go_loopw [6] (fun iv wr => ∃ i : Nat, i ≤ n ∧ iv = .int .i64 (i : Int) ∧ wc = wr ∧ Hid (∀ s, s < i → 0 ≤ zs s ∧ zs s ≤ 1099511627776)) (fun iv _ => n - (intOf iv).toNat)
    case atStart => exact ⟨0, Nat.zero_le _, rfl, rfl, hid (fun s hs => by omega)⟩
    case round =>
      obtain ⟨i, hi, rfl, rfl, HZ⟩ := hrel
      rcases Nat.lt_or_ge i n with hin | hin
      · have hin1 : (i : Int) < (n : Int) := by omega
        obtain ⟨g, hg, rfl, hxs⟩ : ∃ g, w.heap.size ≤ g ∧ x = some ⟨g, 0, none⟩ ∧ Xs wc g 0 n zs := by
          rcases HSL.out with h | h
          · omega
          · exact h
        have g0 := hxs i hin
        rw [Nat.zero_add] at g0
        obtain ⟨zi, hzi⟩ : ∃ zi, zs i = zi := ⟨_, rfl⟩
        rw [hzi] at g0
        have HZI := hid hzi
        clear hxs hzi
        rcases Int.lt_or_le zi 0 with hz0 | hz0
        ·
          --@p1
          go_wp2
          go_ret
          exact ⟨rfl, HB.out⟩
        rcases Int.lt_or_le 1099511627776 zi with hz1 | hz1
        ·
          --@p2
          go_wp2
          go_ret
          exact ⟨rfl, HB.out⟩
        ·
          --@p3
          go_wp2_with fail
          go_roundw
          case rel =>
            refine ⟨i + 1, by omega, by first | rfl | go_num, by first | rfl | trivial, hid (fun s hs => ?_)⟩
            by_cases e : s = i
            · rw [e, HZI.out]; exact ⟨hz0, hz1⟩
            · exact HZ.out s (by omega)
          case measure => simp [intOf]; omega
      · have hin1 : (n : Int) ≤ (i : Int) := by omega
        have hin2 : decide (i < n) = false := by simp; omega
        have HZA : Hid (∀ s, s < n → 0 ≤ zs s ∧ zs s ≤ 1099511627776) := hid (fun s hs => HZ.out s (by omega))
        have HC1 := hid (zl_any x w.heap.size n z mc zs wc HSL.out (by omega) (fun s hs => by have := HZA.out s hs; omega) hb3)
        clear HZ HMK
        go_wp2_with fail
        clear hin2 hin1 hin hi
        refine Calls.mono HC1.out ?_
        rintro e w7 ⟨hB7, xa, za, rfl, HA⟩
        have HSL7 := hid (HSL.out.later hB7)
        have HB7 := hid (HB.out.trans (hB7.mono HB.out.size))
        have HZ1 : Hid (∀ s, s < n → 0 ≤ zs s ∧ zs s ≤ 2199023255552) := hid (fun s hs => by have := HZA.out s hs; omega)
        have HCOV : Hid (∀ s, s < n → zs s ≤ lvO zs n mc s) := hid (fun s hs => lvO_cover (by omega) HZ1.out hs)
        have HBD : Hid (∀ s, s < n → 0 ≤ lvO zs n mc s ∧ lvO zs n mc s ≤ 2199023255552) := hid (fun s hs => lvO_bd (by omega) HZ1.out hs)
        have HCH : Hid (chg (lvO zs n mc) n ≤ mc) := hid (lvO_chg (by omega) HZ1.out)
        have HTOP : Hid (TopOK (lvO zs n mc) zs n) := hid (lvO_top (by omega) HZ1.out)
        have HSUM : Hid (0 < n → sumTo (lvO zs n mc) n = rowOf zs sl ((if mc < n - 1 then mc + 1 else n) - 1) n) := hid (fun h => lvO_sum (by omega) h HZ1.out)
        obtain ⟨fA, hfA⟩ : ∃ fA, lvO zs n mc = fA := ⟨_, rfl⟩
        rw [hfA] at HA HCOV HBD HCH HTOP HSUM
        have hnn : ((n : Int) != (n : Int)) = false := by simp
        clear hB7 HSL HB HC1 hfA HZA
        go_wp2_with fail
        clear hnn
        go_loopw [9, 10] (fun cv sv wr => ∃ s : Nat, s ≤ n ∧ cv = .int .i64 ((chg fA s : Nat) : Int) ∧ sv = .int .i64 (s : Int) ∧ Hid (Below w7.heap.size w7 wr)) (fun _ sv _ => n - (intOf sv).toNat)
        case atStart => exact ⟨0, Nat.zero_le _, rfl, rfl, hid (Below.refl _ _)⟩
        case round =>
          obtain ⟨s, hs, rfl, rfl, HBW⟩ := hrel
          rcases Nat.lt_or_ge s n with hsn | hsn
          · have hsn1 : (s : Int) < (n : Int) := by omega
            obtain ⟨g, rfl, hxs⟩ := HSL7.out.get (by omega)
            obtain ⟨ga, rfl, hxa⟩ := HA.out.get (by omega)
            obtain ⟨zi, hzi⟩ : ∃ zi, zs s = zi := ⟨_, rfl⟩
            obtain ⟨fi, hfi⟩ : ∃ fi, fA s = fi := ⟨_, rfl⟩
            have e0 := hxs.read HBW.out hsn hzi
            have e1 := hxa.read HBW.out hsn hfi
            have hcv := HCOV.out s hsn
            rw [hzi, hfi] at hcv
            have hdec : decide (fi < zi) = false := by simp; omega
            have HXA := hid hxa
            have HFI := hid hfi
            have hchl : chg fA s ≤ s := chg_le fA s
            have hchi : ((chg fA s : Nat) : Int) ≤ 256 := by omega
            obtain ⟨cs, hcs⟩ : ∃ cs, chg fA s = cs := ⟨_, rfl⟩
            have hcs1 : (cs : Int) ≤ 256 := by rw [← hcs]; exact hchi
            rw [hcs]
            have HCS := hid hcs
            clear hxs hxa hzi hfi hcs hchi hchl
            cases s with
            | zero =>
              --@t0
              have hs0 : decide ((0 : Int) > (0 : Int)) = false := by simp
              go_wp2_with fail
              go_quiet (fail)
              go_wp2_with fail
              go_quiet (fail)
              go_wp2_with fail
              go_roundw
              case rel =>
                refine ⟨1, by omega, ?_, by first | rfl | go_num, hid (HBW.out.trans (bdrewN (Below.refl _ _) _))⟩
                rw [← HCS.out]
                simp [chg]
              case measure => simp [intOf]; omega
            | succ s' =>
              --@t1
              obtain ⟨fp, hfp⟩ : ∃ fp, fA s' = fp := ⟨_, rfl⟩
              have e3 := HXA.out.read HBW.out (show s' < n by omega) hfp
              have HFP := hid hfp
              have hs0 : (0 : Int) < (s' : Int) + 1 := by omega
              have hs1 : (s' : Int) + 1 < (n : Int) := by omega
              have hs2 : (s' : Int) < (n : Int) := by omega
              clear hsn1 hfp
              rw [show ((s' + 1 : Nat) : Int) = (s' : Int) + 1 by omega]
              by_cases hfe : fi = fp
              · have hne1 : (fi != fp) = false := by simp [hfe]
                have HFE := hid hfe
                clear hfe
                go_wp2_with fail
                go_quiet (fail)
                go_wp2_with fail
                go_quiet (fail)
                go_wp2_with fail
                go_roundw
                case rel =>
                  refine ⟨s' + 1 + 1, by omega, ?_, by first | rfl | go_num, hid (HBW.out.trans (bdrewN (Below.refl _ _) _))⟩
                  rw [chg, HCS.out, if_pos (.inr (by rw [HFI.out, Nat.add_sub_cancel, HFP.out]; exact HFE.out))]
                  rfl
                case measure => simp [intOf]; omega
              · have hne1 : (fi != fp) = true := by simp [hfe]
                have HFE := hid hfe
                clear hfe
                go_wp2_with fail
                go_quiet (fail)
                go_wp2_with fail
                go_quiet (fail)
                go_wp2_with fail
                go_roundw
                case rel =>
                  refine ⟨s' + 1 + 1, by omega, ?_, by first | rfl | go_num, hid (HBW.out.trans (bdrewN (Below.refl _ _) _))⟩
                  rw [chg, HCS.out, if_neg (by
                    rintro (h | h)
                    · omega
                    · rw [HFI.out, Nat.add_sub_cancel, HFP.out] at h
                      exact HFE.out h)]
                  first | rfl | go_num
                case measure => simp [intOf]; omega
          · have hin2 : decide (s < n) = false := by simp; omega
            obtain ⟨cs, hcs⟩ : ∃ cs, chg fA s = cs := ⟨_, rfl⟩
            have hle : (cs : Int) ≤ (mc : Int) := by
              have := HCH.out
              have e : s = n := by omega
              rw [← e, hcs] at this
              omega
            have hsn1 : (n : Int) ≤ (s : Int) := by omega
            rw [hcs]
            have hd2 : decide (mc < cs) = false := by simp; omega
            clear hcs
            go_wp2_with fail
            clear hd2 hle hsn1 hin2 hsn hs
            go_loopw [11, 12] (fun uv sv wr => ∃ s : Nat, s ≤ n ∧ uv = .int .i64 (sumTo fA s) ∧ sv = .int .i64 (s : Int) ∧ Hid (Below w7.heap.size w7 wr) ∧ Hid (s < n → s = 0 ∨ fA s ≠ fA (s - 1))) (fun _ sv _ => n - (intOf sv).toNat)
            case atStart => exact ⟨0, Nat.zero_le _, rfl, rfl, HBW, hid (fun _ => .inl rfl)⟩
            case round =>
              clear HBW
              obtain ⟨s, hs, rfl, rfl, HBW, HST⟩ := hrel
              obtain ⟨sm, hsm⟩ : ∃ sm, sumTo fA s = sm := ⟨_, rfl⟩
              have hsb := sum_bd HBD.out s hs
              rw [hsm] at hsb
              rw [hsm]
              have HSM := hid hsm
              clear hsm
              rcases Nat.lt_or_ge s n with hsn | hsn
              · have hsn1 : (s : Int) < (n : Int) := by omega
                obtain ⟨g, rfl, hxs⟩ := HSL7.out.get (by omega)
                obtain ⟨ga, rfl, hxa⟩ := HA.out.get (by omega)
                have HXS := hid hxs
                have HXA := hid hxa
                obtain ⟨zi, hzi⟩ : ∃ zi, zs s = zi := ⟨_, rfl⟩
                obtain ⟨fi, hfi⟩ : ∃ fi, fA s = fi := ⟨_, rfl⟩
                have e0 := hxs.read HBW.out hsn hzi
                have HT0 : Hid (TopSt zs fA n s s zi) := hid (by rw [← hzi]; exact TopSt.start hsn)
                have HFI := hid hfi
                have hst := HST.out hsn
                have HST2 := hid hst
                have hbd := HBD.out s hsn
                rw [hfi] at hbd
                have HBDs := hid hbd
                clear hxs hxa hzi hfi hst hbd
                go_upto_block 6 with fail
                go_cut [13, 14] (fun ev tv wd => ∃ e : Nat, s < e ∧ e ≤ n ∧ ev = .int .i64 (e : Int) ∧ tv = .int .i64 fi ∧ Hid (Below w7.heap.size w7 wd) ∧ Hid (∀ y, s ≤ y → y < e → fA y = fA s) ∧ Hid (e < n → fA e ≠ fA s))
                case first =>
                  go_wp2_with fail
                  go_loopw [13, 14] (fun ev tv wx => ∃ (e : Nat) (T : Int), s ≤ e ∧ e ≤ n ∧ ev = .int .i64 (e : Int) ∧ tv = .int .i64 T ∧ Hid (TopSt zs fA n s e T) ∧ Hid (Below w7.heap.size w7 wx)) (fun ev _ _ => n - (intOf ev).toNat)
                  case atStart => exact ⟨s, zi, Nat.le_refl _, hs, rfl, rfl, HT0, HBW⟩
                  case round =>
                    clear HT0 e0 HBW
                    obtain ⟨e, T, hse, hen, rfl, rfl, HT, HBW⟩ := hrel
                    have e1 := HXA.out.read HBW.out hsn HFI.out
                    rcases Nat.lt_or_ge e n with hel | hel
                    · have hel1 : (e : Int) < (n : Int) := by omega
                      obtain ⟨ze, hze⟩ : ∃ ze, zs e = ze := ⟨_, rfl⟩
                      obtain ⟨fe, hfe⟩ : ∃ fe, fA e = fe := ⟨_, rfl⟩
                      have e2 := HXS.out.read HBW.out hel hze
                      have e3 := HXA.out.read HBW.out hel hfe
                      have HZE := hid hze
                      have HFE := hid hfe
                      clear hze hfe
                      by_cases heq : fe = fi
                      · have hb1 : (fe == fi) = true := by simp [heq]
                        have HEQ : Hid (fA e = fA s) := hid (by rw [HFE.out, HFI.out, heq])
                        clear heq
                        rcases Int.lt_or_le T ze with hT | hT
                        ·
                          --@u1
                          go_wp2_with fail
                          go_quiet (fail)
                          go_wp2_with fail
                          go_roundw
                          case rel => exact ⟨e + 1, ze, by omega, by omega, by first | rfl | go_num, rfl, hid (by rw [← HZE.out]; exact HT.out.up hse hel HEQ.out (by rw [HZE.out]; exact hT)), hid (HBW.out.trans (bdrewN (Below.refl _ _) _))⟩
                          case measure => simp [intOf]; omega
                        ·
                          --@u2
                          go_wp2_with fail
                          go_quiet (fail)
                          go_wp2_with fail
                          go_roundw
                          case rel => exact ⟨e + 1, T, by omega, by omega, by first | rfl | go_num, rfl, hid (HT.out.go HEQ.out (by rw [HZE.out]; exact hT)), hid (HBW.out.trans (bdrewN (Below.refl _ _) _))⟩
                          case measure => simp [intOf]; omega
                      ·
                        --@u3
                        have hb1 : (fe == fi) = false := by simp [heq]
                        have HNE : Hid (fA e ≠ fA s) := hid (by rw [HFE.out, HFI.out]; exact heq)
                        have hdn := HT.out.done HTOP.out HCOV.out hsn hse HST2.out (.inr ⟨hel, HNE.out⟩)
                        have HDN := hid hdn
                        clear heq hdn
                        go_wp2_with fail
                        go_quiet (fail)
                        go_wp2_with fail
                        go_meet
                        case rel => exact ⟨e, HDN.out.2, hen, rfl, by rw [HDN.out.1, HFI.out], hid (HBW.out.trans (bdrewN (Below.refl _ _) _)), hid (fun y h1 h2 => (HT.out.eq y h1 h2).1), hid (fun _ => HNE.out)⟩
                    ·
                      --@u4
                      have hel1 : (n : Int) ≤ (e : Int) := by omega
                      have hel2 : decide ((e : Int) < (n : Int)) = false := by simp; omega
                      have hel3 : decide (e < n) = false := by simp; omega
                      have hdn := HT.out.done HTOP.out HCOV.out hsn hse HST2.out (.inl (by omega))
                      have HDN := hid hdn
                      clear hdn
                      go_wp2_with fail
                      go_quiet (fail)
                      go_wp2_with fail
                      go_meet
                      case rel => exact ⟨e, HDN.out.2, hen, rfl, by rw [HDN.out.1, HFI.out], hid (HBW.out.trans (bdrewN (Below.refl _ _) _)), hid (fun y h1 h2 => (HT.out.eq y h1 h2).1), hid (fun h => by omega)⟩
                case rest =>
                  --@u5
                  clear HT0 HBW e0
                  obtain ⟨e, hse, hen, rfl, rfl, HBW, HEQ, HNE⟩ := hcut
                  have e1 := HXA.out.read HBW.out hsn HFI.out
                  have hbd := HBDs.out
                  have hbm := bmul (a := (e : Int) - (s : Int)) (x := fi) (by omega) (by omega) hbd.1 hbd.2
                  have hw1 : IntKind.i64.wrap ((e : Int) - (s : Int)) = (e : Int) - (s : Int) := wrap_mid (by omega) (by omega)
                  have hw2 : IntKind.i64.wrap (((e : Int) - (s : Int)) * fi) = ((e : Int) - (s : Int)) * fi := wrap_mid (by omega) (by omega)
                  have hw3 : IntKind.i64.wrap (sm + ((e : Int) - (s : Int)) * fi) = sm + ((e : Int) - (s : Int)) * fi := wrap_mid (by omega) (by omega)
                  have hne : (fi != fi) = false := by simp
                  clear hbd hbm
                  go_wp2_with fail
                  go_roundw
                  case rel =>
                    refine ⟨e, hen, ?_, rfl, HBW, hid (fun h => .inr ?_)⟩
                    · have h1 := sumTo_seg (f := fA) (v := fi) s (e - s) (fun y h1 h2 => by rw [HEQ.out y h1 (by omega), HFI.out])
                      rw [show s + (e - s) = e by omega, HSM.out, show ((e - s : Nat) : Int) = (e : Int) - (s : Int) by omega] at h1
                      rw [h1]
                    · rw [HEQ.out (e - 1) (by omega) (by omega)]
                      exact HNE.out h
                  case measure => simp [intOf]; omega
              ·
                have hsn1 : (n : Int) ≤ (s : Int) := by omega
                have hes : s = n := by omega
                have hsmn := HSM.out
                rw [hes] at hsmn
                rcases Nat.eq_zero_or_pos n with hn0 | hn0
                ·
                  --@v1
                  have hsm0 : sm = 0 := by rw [← hsmn, hn0]; rfl
                  subst hn0 hsm0
                  have HC := hid (cheap0_any x z (mc : Int) wr)
                  clear hsmn hes
                  go_wp2_with fail
                  refine Calls.mono HC.out ?_
                  rintro e w9 ⟨rfl, hB9⟩
                  have HB9 := hid (HB7.out.trans ((HBW.out.mono HB7.out.size).trans (hB9.mono (Nat.le_trans HB7.out.size HBW.out.size))))
                  clear hB9
                  go_wp2
                  go_ret
                  exact ⟨rfl, HB9.out⟩
                ·
                  --@v2
                  obtain ⟨g, rfl, hxs⟩ := HSL7.out.get (by omega)
                  have hxr : Xs wr g 0 n zs := fun j hj => keepc (hxs j hj) HBW.out
                  have hC := cheap_any g n z mc zs wr hxr hn0 (by omega) HZ1.out hb3
                  rw [← HSUM.out hn0, hsmn] at hC
                  have HC := hid hC
                  have hbb : (sm == sm) = true := by simp
                  clear hsmn hes hC hxs hxr
                  go_wp2_with fail
                  refine Calls.mono HC.out ?_
                  rintro e w9 ⟨rfl, hB9⟩
                  have HB9 := hid (HB7.out.trans ((HBW.out.mono HB7.out.size).trans (hB9.mono (Nat.le_trans HB7.out.size HBW.out.size))))
                  clear hB9
                  go_wp2
                  go_ret
                  exact ⟨rfl, HB9.out⟩
end Go.Proofs.Qxb6614303a

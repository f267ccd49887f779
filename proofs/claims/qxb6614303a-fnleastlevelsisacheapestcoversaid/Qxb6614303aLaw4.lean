/-
  Seat b6614303a. The law on a shift of every need (4).
-/
import Derived.Test.Qxb6614303aZl
namespace Go.Proofs.Qxb6614303a
open Go.RowKit
set_option linter.unusedVariables false

/-- A slice of integers that came in. -/
def Arg (w : World) (a : Option Addr) (len cap : Nat) (zs : List Int) : Prop :=
  (a = none ∧ len = 0 ∧ cap = 0 ∧ zs = []) ∨
  ∃ x, a = some x ∧ len ≤ cap ∧ cap ≤ maxLen ∧ zs.length = cap ∧ (∀ i, i < zs.length → w.cell? (x.add i) = some (.int .i64 (zs.getD i 0))) ∧ ∀ n ∈ zs, (Lit.int .i64 n).wf = true

theorem SlAt.get {w : World} {b : Nat} {x : Option Addr} {n : Nat} {f : Nat → Int} (h : SlAt w b x n f) (hn : 0 < n) : ∃ g, x = some ⟨g, 0, none⟩ ∧ Xs w g 0 n f := by
  rcases h with h | ⟨g, _, h2, h3⟩
  · omega
  · exact ⟨g, h2, h3⟩
theorem Xs.read {w w' : World} {g n : Nat} {f : Nat → Int} (h : Xs w g 0 n f) (hb : Below w.heap.size w w') {j : Nat} (hj : j < n) {v : Int} (hv : f j = v) : w'.cell? ⟨g, j, none⟩ = some (.int .i64 v) := by
  have := keepc (h j hj) hb
  rw [Nat.zero_add, hv] at this
  exact this

theorem chg_le (f : Nat → Int) : ∀ s, chg f s ≤ s
  | 0 => by simp [chg]
  | s + 1 => by
    have := chg_le f s
    have := chg_one f s
    omega

def True4 (w : World) (e : Ending) (w' : World) : Prop := e = .returned (.bool true) ∧ Below w.heap.size w w'

set_option maxRecDepth 100000 in
set_option maxHeartbeats 40000000 in
theorem law4_any (a0 : Option Addr) (n cap0 : Nat) (z0 : List Int) (a1 c : Int) (w : World) (h0 : Arg w a0 n cap0 z0) (w1 : (Lit.int .i64 a1).wf = true) :
    Calls Try.prog 4 #[.slice a0 n cap0, .int .i64 a1, .int .i64 c] w (True4 w) := by
  have hb1 : (-9223372036854775808 : Int) ≤ a1 ∧ a1 ≤ 9223372036854775807 := by
    have h : IntKind.i64.min ≤ a1 ∧ a1 ≤ IntKind.i64.max := by simpa [Lit.wf] using w1
    exact h
  have H0 := hid h0
  clear h0 w1
  rcases Nat.lt_or_ge 1048576 n with hbig | hbig
  · have HC := hid (bytes10_big a0 n cap0 a1 c w hbig)
    --@e1
    go_enter Try.func4, Try.ntmps4
    go_wp2_with fail
    refine Calls.mono HC.out ?_
    rintro e w' ⟨rfl, hw'⟩
    rw [hw']
    go_wp2
    go_ret
    exact ⟨rfl, Below.refl _ _⟩
  have HC := hid (bytes10_any a0 n cap0 a1 c w hbig)
  rcases Nat.lt_or_ge 1024 n with hn | hn
  · have hn1 : (1024 : Int) < (n : Int) := by omega
    --@e2
    go_enter Try.func4, Try.ntmps4
    go_wp2_with fail
    refine Calls.mono HC.out ?_
    rintro e w' ⟨rfl, hw'⟩
    rw [hw']
    go_wp2
    go_ret
    exact ⟨rfl, Below.refl _ _⟩
  have hn1 : (n : Int) ≤ 1024 := by omega
  rcases Int.lt_or_le a1 0 with ha1 | ha1
  ·
    --@e3
    go_enter Try.func4, Try.ntmps4
    go_wp2_with fail
    refine Calls.mono HC.out ?_
    rintro e w' ⟨rfl, hw'⟩
    rw [hw']
    go_wp2
    go_ret
    exact ⟨rfl, Below.refl _ _⟩
  rcases Int.lt_or_le c 0 with hc0 | hc0
  ·
    --@e4
    go_enter Try.func4, Try.ntmps4
    go_wp2_with fail
    refine Calls.mono HC.out ?_
    rintro e w' ⟨rfl, hw'⟩
    rw [hw']
    go_wp2
    go_ret
    exact ⟨rfl, Below.refl _ _⟩
  rcases Int.lt_or_le 1099511627776 c with hc1 | hc1
  ·
    --@e5
    go_enter Try.func4, Try.ntmps4
    go_wp2_with fail
    refine Calls.mono HC.out ?_
    rintro e w' ⟨rfl, hw'⟩
    rw [hw']
    go_wp2
    go_ret
    exact ⟨rfl, Below.refl _ _⟩
  obtain ⟨mc, rfl⟩ : ∃ mc : Nat, a1 = (mc : Int) := ⟨a1.toNat, by omega⟩
  obtain ⟨hb2, hb3⟩ := hb1
  clear hb2 ha1
  obtain ⟨zs, hzs⟩ : ∃ zs : Nat → Int, (fun j => z0.getD j 0) = zs := ⟨_, rfl⟩
  have HMK := hid (fun X : World => run_make_row' (P := Try.prog) 22 2 (.int .i64 0) 8 Try.underlying22 info2 rfl .i64 .i64 n (by omega) (by omega) X)
  have HZS := hid hzs
  clear hzs
  go_enter Try.func4, Try.ntmps4
  go_wp2_with fail
  refine Calls.mono HC.out ?_
  rintro e w' ⟨rfl, hw'⟩
  rw [hw']
  clear HC hw'
  go_upto_if 35 with fail
  go_cut [0] (fun v wd => ∃ (x : Option Addr) (z : Nat), v = .slice x n z ∧ Hid (SlAt wd w.heap.size x n zs) ∧ Hid (Below w.heap.size w wd))
  case first =>
    rcases H0.out with ⟨rfl, rfl, rfl, rfl⟩ | ⟨x, rfl, hl, hm, hz, hcell, hwz⟩
    ·
      --@k1
      clear HMK
      go_wp2_with fail
      go_meet
      case rel => exact ⟨none, 0, rfl, hid (.inl rfl), hid (Below.refl _ _)⟩
    ·
      --@k2
      have HCE : Hid (∀ j, j < n → w.cell? (x.add j) = some (.int .i64 (zs j))) := hid (fun j hj => by rw [← HZS.out]; exact hcell j (by omega))
      have hmk := HMK.out
      clear hcell hwz hl hm hz H0 HMK
      have HROW := hid (World.rowIs_made w (.int .i64 0) n 2)
      have HBA : Hid (Below w.heap.size w (w.alloc (.cells (madeCells #[.int .i64 0] n) 2))) := hid ((Below.refl _ _).alloc (Nat.le_refl _) _)
      have HSRC : Hid (∀ j, j < n → (w.alloc (.cells (madeCells #[.int .i64 0] n) 2)).cell? (x.add j) = some (.int .i64 (zs j))) := hid (fun j hj => keepc (HCE.out j hj) HBA.out)
      go_wp2_with (first
        | (refine wpList_copy22 rfl _ _ rfl w.heap.size n x cap0 zs rfl rfl _ HROW.out HSRC.out ?_; intro w5 hx5 hb5)
        | fail)
      go_meet
      case rel => exact ⟨some ⟨w.heap.size, 0, none⟩, n, rfl, hid (.inr ⟨_, Nat.le_refl _, rfl, hx5.out⟩), hid (hb5.out _ _ (Nat.le_refl _) HBA.out)⟩
  case rest =>
    clear H0 HZS
    obtain ⟨x, z, rfl, HSL, HB⟩ := hcut
    go_wp2_with fail
    go_loopw [8] (fun iv wr => ∃ i : Nat, i ≤ n ∧ iv = .int .i64 (i : Int) ∧ wc = wr ∧ Hid (∀ s, s < i → 0 ≤ zs s ∧ zs s ≤ 1099511627776)) (fun iv _ => n - (intOf iv).toNat)
    case atStart => exact ⟨0, Nat.zero_le _, rfl, rfl, hid (fun s hs => by omega)⟩
    case round =>
      obtain ⟨i, hi, rfl, rfl, HZ⟩ := hrel
      rcases Nat.lt_or_ge i n with hin | hin
      · have hin1 : (i : Int) < (n : Int) := by omega
        obtain ⟨g, hg, rfl, hxs⟩ : ∃ g, w.heap.size ≤ g ∧ x = some ⟨g, 0, none⟩ ∧ Xs wc g 0 n zs := by
          rcases HSL.out with h | h
          · omega
          · exact h
        have g0 := hxs i hin
        rw [Nat.zero_add] at g0
        obtain ⟨zi, hzi⟩ : ∃ zi, zs i = zi := ⟨_, rfl⟩
        rw [hzi] at g0
        have HZI := hid hzi
        clear hxs hzi
        rcases Int.lt_or_le zi 0 with hz0 | hz0
        ·
          --@p1
          go_wp2
          go_ret
          exact ⟨rfl, HB.out⟩
        rcases Int.lt_or_le 1099511627776 zi with hz1 | hz1
        ·
          --@p2
          go_wp2
          go_ret
          exact ⟨rfl, HB.out⟩
        ·
          --@p3
          go_wp2_with fail
          go_roundw
          case rel =>
            refine ⟨i + 1, by omega, by first | rfl | go_num, by first | rfl | trivial, hid (fun s hs => ?_)⟩
            by_cases e : s = i
            · rw [e, HZI.out]; exact ⟨hz0, hz1⟩
            · exact HZ.out s (by omega)
          case measure => simp [intOf]; omega
      · have hin1 : (n : Int) ≤ (i : Int) := by omega
        have hin2 : decide (i < n) = false := by simp; omega
        have HZA : Hid (∀ s, s < n → 0 ≤ zs s ∧ zs s ≤ 1099511627776) := hid (fun s hs => HZ.out s (by omega))
        have hmk := HMK.out
        clear HZ HMK
        go_wp2_with fail
        clear hmk hin2 hin1 hin hi
        have hBa : Below wc.heap.size wc (wc.alloc (.cells (madeCells #[.int .i64 0] n) 2)) := (Below.refl _ _).alloc (Nat.le_refl _) _
        have hrow := World.rowIs_made wc (.int .i64 0) n 2
        obtain ⟨W5, hW5⟩ : ∃ W5, wc.alloc (.cells (madeCells #[.int .i64 0] n) 2) = W5 := ⟨_, rfl⟩
        obtain ⟨gs, hgs⟩ : ∃ gs, wc.heap.size = gs := ⟨_, rfl⟩
        rw [hW5] at hBa hrow ⊢
        have HSL5 := hid (HSL.out.later hBa)
        have HB5 := hid (HB.out.trans (hBa.mono HB.out.size))
        have HGS : Hid (∀ g, x = some ⟨g, 0, none⟩ → 0 < n → g < gs) := hid (fun g hg h0 => by
          rcases HSL.out with h | ⟨g', h1, h2, h3⟩
          · omega
          · rw [hg] at h2
            cases h2
            have := World.block_lt_of_cell? _ _ (h3 0 h0)
            rw [← hgs]
            exact this)
        have hwgs : w.heap.size ≤ gs := by have := HB.out.size; omega
        rw [hgs] at hrow ⊢
        have HR5 := hid hrow
        clear hBa hrow hW5 hgs HSL HB
        go_loopw [11] (fun iv wr => ∃ k : Nat, k ≤ n ∧ iv = .int .i64 (k : Int) ∧ Hid (SlAt wr w.heap.size x n zs) ∧ Hid (Below w.heap.size w wr) ∧ Hid (wr.rowIs gs 2 n (fun s => .int .i64 (if s < k then zs s + c else 0)))) (fun iv _ => n - (intOf iv).toNat)
        case atStart => exact ⟨0, Nat.zero_le _, rfl, HSL5, HB5, hid (World.rowIs.congr HR5.out (fun s hs => by rw [if_neg (by omega)]))⟩
        case round =>
          clear HSL5 HB5 HR5
          obtain ⟨k, hk, rfl, HSL, HB, HR⟩ := hrel
          rcases Nat.lt_or_ge k n with hkn | hkn
          · have hkn1 : (k : Int) < (n : Int) := by omega
            obtain ⟨g, hg, rfl, hxs⟩ : ∃ g, w.heap.size ≤ g ∧ x = some ⟨g, 0, none⟩ ∧ Xs wr g 0 n zs := by
              rcases HSL.out with h | h
              · omega
              · exact h
            have g0 := hxs k hkn
            rw [Nat.zero_add] at g0
            obtain ⟨zi, hzi⟩ : ∃ zi, zs k = zi := ⟨_, rfl⟩
            have hzb := HZA.out k hkn
            rw [hzi] at g0 hzb
            have hwr : IntKind.i64.wrap (zi + c) = zi + c := wrap_mid (by omega) (by omega)
            have r1 := HR.out.cell (i := k) hkn
            have r2 := HR.out.frozen k
            rw [if_neg (by omega)] at r1
            have HXS := hid hxs
            have HZI := hid hzi
            have hne := HGS.out g rfl (by omega)
            clear hxs hzi hzb
            --@q1
            go_wp2_with fail
            go_roundw
            case rel =>
              refine ⟨k + 1, by omega, by first | rfl | go_num, hid (.inr ⟨g, hg, rfl, fun j hj => ?_⟩), hid (HB.out.setCell (by show w.heap.size ≤ gs; exact hwgs) _), hid (World.rowIs.congr (HR.out.set k (.int .i64 (zi + c))) (fun s hs => ?_))⟩
              · rw [← HXS.out j hj]
                exact World.cell?_of_block (Below.heap_setCell _ _ _ _ (by show g ≠ gs; omega))
              · by_cases e : s = k
                · rw [if_pos e, if_pos (by omega), e, HZI.out]
                · rw [if_neg e]
                  by_cases e2 : s < k
                  · rw [if_pos e2, if_pos (by omega)]
                  · rw [if_neg e2, if_neg (by omega)]
            case measure => simp [intOf]; omega
          · have hkn1 : (n : Int) ≤ (k : Int) := by omega
            have hkn2 : decide (k < n) = false := by simp; omega
            have HSH : Hid (SlAt wr w.heap.size (some ⟨gs, 0, none⟩) n (fun s => zs s + c)) := hid (.inr ⟨gs, hwgs, rfl, fun j hj => by rw [Nat.zero_add, HR.out.cell hj, if_pos (by omega)]⟩)
            have HC1 := hid (zl_any x w.heap.size n z mc zs wr HSL.out hn (fun s hs => by have := HZA.out s hs; omega) hb3)
            --@q2
            go_wp2_with fail
            refine Calls.mono HC1.out ?_
            rintro e w6 ⟨hB6, xa, za, rfl, HA⟩
            have HSL6 := hid (HSL.out.later hB6)
            have HSH6 := hid (HSH.out.later hB6)
            have HB6 := hid (HB.out.trans (hB6.mono HB.out.size))
            have HC2 := hid (zl_any (some ⟨gs, 0, none⟩) w.heap.size n n mc (fun s => zs s + c) w6 HSH6.out hn (fun s hs => by have := HZA.out s hs; omega) hb3)
            clear hB6 HSL HSH HB HC1 HR hkn1 hkn2
            go_wp2_with fail
            refine Calls.mono HC2.out ?_
            rintro e w7 ⟨hB7, xb, zb, rfl, HBB⟩
            have HSL7 := hid (HSL6.out.later hB7)
            have HA7 := hid (HA.out.later hB7)
            have HB7 := hid (HB6.out.trans (hB7.mono HB6.out.size))
            have HZ1 : Hid (∀ s, s < n → 0 ≤ zs s ∧ zs s ≤ 2199023255552) := hid (fun s hs => by have := HZA.out s hs; omega)
            have HSHF : Hid (∀ s, s < n → lvO (fun s => zs s + c) n mc s = lvO zs n mc s + c) := hid (fun s hs => lvO_shift hn hc0 HZ1.out (fun s hs => by have := HZA.out s hs; omega) hs)
            have HCOV : Hid (∀ s, s < n → zs s ≤ lvO zs n mc s) := hid (fun s hs => lvO_cover hn HZ1.out hs)
            have HBD : Hid (∀ s, s < n → 0 ≤ lvO zs n mc s ∧ lvO zs n mc s ≤ 2199023255552) := hid (fun s hs => lvO_bd hn HZ1.out hs)
            have HCH : Hid (chg (lvO zs n mc) n ≤ mc) := hid (lvO_chg hn HZ1.out)
            obtain ⟨fA, hfA⟩ : ∃ fA, lvO zs n mc = fA := ⟨_, rfl⟩
            obtain ⟨fB, hfB⟩ : ∃ fB, lvO (fun s => zs s + c) n mc = fB := ⟨_, rfl⟩
            rw [hfA] at HA7 HSHF HCOV HBD HCH
            rw [hfB] at HBB HSHF
            have hnn : ((n : Int) != (n : Int)) = false := by simp
            clear hB7 HSL6 HA HSH6 HB6 HC2 hfA hfB HZ1
            go_wp2_with fail
            clear hnn
            go_loopw [14, 15] (fun cv sv wr => ∃ s : Nat, s ≤ n ∧ cv = .int .i64 ((chg fA s : Nat) : Int) ∧ sv = .int .i64 (s : Int) ∧ Hid (Below w7.heap.size w7 wr)) (fun _ sv _ => n - (intOf sv).toNat)
            case atStart => exact ⟨0, Nat.zero_le _, rfl, rfl, hid (Below.refl _ _)⟩
            case round =>
              obtain ⟨s, hs, rfl, rfl, HBW⟩ := hrel
              rcases Nat.lt_or_ge s n with hsn | hsn
              · have hsn1 : (s : Int) < (n : Int) := by omega
                obtain ⟨g, rfl, hxs⟩ := HSL7.out.get (by omega)
                obtain ⟨ga, rfl, hxa⟩ := HA7.out.get (by omega)
                obtain ⟨gb, rfl, hxb⟩ := HBB.out.get (by omega)
                obtain ⟨zi, hzi⟩ : ∃ zi, zs s = zi := ⟨_, rfl⟩
                obtain ⟨fi, hfi⟩ : ∃ fi, fA s = fi := ⟨_, rfl⟩
                have e0 := hxs.read HBW.out hsn hzi
                have e1 := hxa.read HBW.out hsn hfi
                have e2 := hxb.read HBW.out hsn (show fB s = fi + c by rw [HSHF.out s hsn, hfi])
                have hcv := HCOV.out s hsn
                have hbd := HBD.out s hsn
                rw [hzi, hfi] at hcv
                rw [hfi] at hbd
                have hwr : IntKind.i64.wrap (fi + c) = fi + c := wrap_mid (by omega) (by omega)
                have hdec : decide (fi < zi) = false := by simp; omega
                have hneq : ((fi + c) != (fi + c)) = false := by simp
                have HXA := hid hxa
                have HFI := hid hfi
                have hchl : chg fA s ≤ s := chg_le fA s
                have hchi : ((chg fA s : Nat) : Int) ≤ 1024 := by omega
                have HCL := hid hchi
                obtain ⟨cs, hcs⟩ : ∃ cs, chg fA s = cs := ⟨_, rfl⟩
                have hcs1 : (cs : Int) ≤ 1024 := by rw [← hcs]; exact hchi
                rw [hcs]
                have HCS := hid hcs
                clear hxs hxa hxb hzi hfi hcs hchi hchl
                cases s with
                | zero =>
                  --@t0
                  have hs0 : decide ((0 : Int) > (0 : Int)) = false := by simp
                  go_wp2_with fail
                  go_quiet (fail)
                  go_wp2_with fail
                  go_quiet (fail)
                  go_wp2_with fail
                  go_roundw
                  case rel =>
                    refine ⟨1, by omega, ?_, by first | rfl | go_num, hid (HBW.out.trans (bdrewN (Below.refl _ _) _))⟩
                    rw [← HCS.out]
                    simp [chg]
                  case measure => simp [intOf]; omega
                | succ s' =>
                  --@t1
                  obtain ⟨fp, hfp⟩ : ∃ fp, fA s' = fp := ⟨_, rfl⟩
                  have e3 := HXA.out.read HBW.out (show s' < n by omega) hfp
                  have HFP := hid hfp
                  have hs0 : (0 : Int) < (s' : Int) + 1 := by omega
                  have hs1 : (s' : Int) + 1 < (n : Int) := by omega
                  have hs2 : (s' : Int) < (n : Int) := by omega
                  clear hsn1 hfp
                  rw [show ((s' + 1 : Nat) : Int) = (s' : Int) + 1 by omega]
                  by_cases hfe : fi = fp
                  · have hne1 : (fi != fp) = false := by simp [hfe]
                    have HFE := hid hfe
                    clear hfe
                    go_wp2_with fail
                    go_quiet (fail)
                    go_wp2_with fail
                    go_quiet (fail)
                    go_wp2_with fail
                    go_roundw
                    case rel =>
                      refine ⟨s' + 1 + 1, by omega, ?_, by first | rfl | go_num, hid (HBW.out.trans (bdrewN (Below.refl _ _) _))⟩
                      rw [chg, HCS.out, if_pos (.inr (by rw [HFI.out, Nat.add_sub_cancel, HFP.out]; exact HFE.out))]
                      rfl
                    case measure => simp [intOf]; omega
                  · have hne1 : (fi != fp) = true := by simp [hfe]
                    have HFE := hid hfe
                    clear hfe
                    go_wp2_with fail
                    go_quiet (fail)
                    go_wp2_with fail
                    go_quiet (fail)
                    go_wp2_with fail
                    go_roundw
                    case rel =>
                      refine ⟨s' + 1 + 1, by omega, ?_, by first | rfl | go_num, hid (HBW.out.trans (bdrewN (Below.refl _ _) _))⟩
                      rw [chg, HCS.out, if_neg (by
                        rintro (h | h)
                        · omega
                        · rw [HFI.out, Nat.add_sub_cancel, HFP.out] at h
                          exact HFE.out h)]
                      first | rfl | go_num
                    case measure => simp [intOf]; omega
              ·
                --@t2
                obtain rfl : s = n := by omega
                have hle : ((chg fA s : Nat) : Int) ≤ (mc : Int) := by have := HCH.out; omega
                go_wp2
                go_ret
                exact ⟨by simp, HB7.out.trans (HBW.out.mono HB7.out.size)⟩
end Go.Proofs.Qxb6614303a

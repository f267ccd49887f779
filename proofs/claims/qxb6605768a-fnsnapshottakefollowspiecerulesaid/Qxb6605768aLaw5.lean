/-
  Seat b6605768a. FnSnapshotTakeFollowsPieceRule (5), walked.
-/
import Derived.Test.Qxb6605768aLaw5a
namespace Go.Proofs.Qxb6605768a
open Go.RowKit
set_option linter.unusedVariables false

set_option maxRecDepth 100000 in
set_option maxHeartbeats 8000000 in
theorem law5 (ix tm : Int) (da : Option Addr) (dn dc : Nat) (bs : Nat → Int) (ma : Option Addr) (mn mc : Nat) (ms : Nat → Mem) (rp : Option Addr) (rm : Mem)
    (z : ZM) (es : Nat → Ent) (bs2 : Nat → Int) (ms2 : Nat → Mem) (rm2 : Mem) (w : World)
    (hd : Bytes w da dn bs) (hm : Mems w ma mn ms) (hr : MemPtr w rp rm) (he : Ents w z.ea z.en es) (hd2 : Bytes w z.pa z.pn bs2) (hm2 : Mems w z.ma z.mn ms2) (hr2 : MemPtr w z.rp rm2)
    (hsz : 0 ≤ z.sz) :
    Calls Try.prog 5 #[.agg #[.int .u64 ix, .int .u64 tm, .slice da dn dc, .slice ma mn mc, .pointer rp], .agg z.val] w (TrueEnd w) := by
  obtain ⟨W, hW⟩ : ∃ W, (w.alloc (.cells #[.int .u64 ix, .int .u64 tm, .slice da dn dc, .slice ma mn mc, .pointer rp] 28)).alloc (.cells z.val 42) = W := ⟨_, rfl⟩
  have hB : Below w.heap.size w W := by rw [← hW]; exact ((Below.refl _ _).alloc (Nat.le_refl _) _).alloc (by simp) _
  have hbox : Box28 W w.heap.size ix tm da dn dc ma mn mc rp := by
    rw [← hW]
    have h1 := World.alloc_heap_new w (.cells #[.int .u64 ix, .int .u64 tm, .slice da dn dc, .slice ma mn mc, .pointer rp] 28)
    have h2 : Below (w.alloc (.cells #[.int .u64 ix, .int .u64 tm, .slice da dn dc, .slice ma mn mc, .pointer rp] 28)).heap.size _ ((w.alloc (.cells #[.int .u64 ix, .int .u64 tm, .slice da dn dc, .slice ma mn mc, .pointer rp] 28)).alloc (.cells z.val 42)) := (Below.refl _ _).alloc (Nat.le_refl _) _
    exact (h2.block _ (by simp)).trans h1
  have hboz : Box42 W (w.heap.size + 1) z := by
    rw [← hW]
    have h1 := World.alloc_heap_new (w.alloc (.cells #[.int .u64 ix, .int .u64 tm, .slice da dn dc, .slice ma mn mc, .pointer rp] 28)) (.cells z.val 42)
    rw [World.size_alloc] at h1
    exact h1
  have hltW : w.heap.size + 1 < W.heap.size := (Array.getElem?_eq_some_iff.1 hboz).1
  have HD : Hid (Bytes W da dn bs) := hd.later hB
  have HM : Hid (Mems W ma mn ms) := hm.later hB
  have HR : Hid (MemPtr W rp rm) := hr.later hB
  have HE : Hid (Ents W z.ea z.en es) := he.later hB
  have HD2 : Hid (Bytes W z.pa z.pn bs2) := hd2.later hB
  have HM2 : Hid (Mems W z.ma z.mn ms2) := hm2.later hB
  have HR2 : Hid (MemPtr W z.rp rm2) := hr2.later hB
  have hdn := hd.1
  have hpn := hd2.1
  have HB : Hid (Below w.heap.size w W) := hB
  have HX : Hid (Box28 W w.heap.size ix tm da dn dc ma mn mc rp) := hbox
  have HZ : Hid (Box42 W (w.heap.size + 1) z) := hboz
  have HS : Hid (0 ≤ z.sz) := hsz
  obtain ⟨e0, e1, e2, e3, e4⟩ := hbox.cells
  clear hd hm hr he hd2 hm2 hr2 hB hbox hboz hsz
  go_enter Try.func5, Try.ntmps5
  go_wp2_with (first
    | (refine wpList_load_z rfl _ rfl (w.heap.size + 1) rfl z HZ.out ?_)
    | fail)
  clear hW e0 e1 e2 e3 e4
  refine (bytes5_z ix tm da dn dc ma mn mc ms rp rm z es ms2 rm2 W hdn HM.out HR.out HE.out hpn HM2.out HR2.out).mono ?_
  rintro e w1 ⟨hB1, b, rfl, hb⟩
  cases b
  · clear hb
    go_wp2
    go_ret
    exact ⟨rfl, HB.out.trans (hB1.mono HB.out.size)⟩
  obtain ⟨k1, k2, k3, k4, k5⟩ := hb rfl
  have HSM : Hid (Small es z.en) := k3
  clear hb hdn hpn k3
  have HK : Hid (∀ X Y : World, (Below W.heap.size W X ∧ X.cell? ⟨w.heap.size, 0, none⟩ = some (.int .u64 ix) ∧ X.cell? ⟨w.heap.size, 1, none⟩ = some (.int .u64 tm) ∧ X.cell? ⟨w.heap.size, 2, none⟩ = some (.slice da dn dc) ∧ X.cell? ⟨w.heap.size, 3, none⟩ = some (.slice ma mn mc) ∧ X.cell? ⟨w.heap.size, 4, none⟩ = some (.pointer rp) ∧ Box42 X (w.heap.size + 1) z) → Below X.heap.size X Y → (Below W.heap.size W Y ∧ Y.cell? ⟨w.heap.size, 0, none⟩ = some (.int .u64 ix) ∧ Y.cell? ⟨w.heap.size, 1, none⟩ = some (.int .u64 tm) ∧ Y.cell? ⟨w.heap.size, 2, none⟩ = some (.slice da dn dc) ∧ Y.cell? ⟨w.heap.size, 3, none⟩ = some (.slice ma mn mc) ∧ Y.cell? ⟨w.heap.size, 4, none⟩ = some (.pointer rp) ∧ Box42 Y (w.heap.size + 1) z)) := by
    rintro X Y ⟨s0, s1, s2, s3, s4, s5, s6⟩ hXY
    exact ⟨s0.trans (hXY.mono s0.size), keepc s1 hXY, keepc s2 hXY, keepc s3 hXY, keepc s4 hXY, keepc s5 hXY, s6.later hXY⟩
  have HS0 : Hid (Below W.heap.size W w1.drew ∧ w1.drew.cell? ⟨w.heap.size, 0, none⟩ = some (.int .u64 ix) ∧ w1.drew.cell? ⟨w.heap.size, 1, none⟩ = some (.int .u64 tm) ∧ w1.drew.cell? ⟨w.heap.size, 2, none⟩ = some (.slice da dn dc) ∧ w1.drew.cell? ⟨w.heap.size, 3, none⟩ = some (.slice ma mn mc) ∧ w1.drew.cell? ⟨w.heap.size, 4, none⟩ = some (.pointer rp) ∧ Box42 w1.drew (w.heap.size + 1) z) := by
    have hB1' := hB1.drew
    obtain ⟨e0, e1, e2, e3, e4⟩ := (Box28.later HX.out hB1').cells
    exact ⟨hB1', e0, e1, e2, e3, e4, Box42.later HZ.out hB1'⟩
  clear hB1
  go_wp2_with fail
  refine wp_region_noPanic ?_
  refine wp_region_held_drew (S := fun w' => Below W.heap.size W w' ∧ w'.cell? ⟨w.heap.size, 0, none⟩ = some (.int .u64 ix) ∧ w'.cell? ⟨w.heap.size, 1, none⟩ = some (.int .u64 tm) ∧ w'.cell? ⟨w.heap.size, 2, none⟩ = some (.slice da dn dc) ∧ w'.cell? ⟨w.heap.size, 3, none⟩ = some (.slice ma mn mc) ∧ w'.cell? ⟨w.heap.size, 4, none⟩ = some (.pointer rp) ∧ Box42 w' (w.heap.size + 1) z) (by kernel_rfl) (by exact HS0.out) (fun hHeld => ?_)
  refine wpAnyH_takeD (i := 0) (some 14) (.agg #[.int .u64 ix, .int .u64 tm, .slice da dn dc, .slice ma mn mc, .pointer rp]) rfl rfl (by kernel_rfl) (by kernel_rfl) (by kernel_rfl) (fun _ _ _ h => h) (Or.inl ⟨by rfl, ?_⟩) hHeld ?_
  · (intro X hSw; (try dsimp only at hSw); go_simp)
  simp only [Act.put, List.setIfInBounds_toArray, List.set_cons_zero, List.set_cons_succ]
  refine wpAnyH_takeD (i := 2) (some 16) (MZ z) rfl rfl (by kernel_rfl) (by kernel_rfl) (by kernel_rfl) (fun _ _ _ h => h) (yields_load_z rfl _ rfl (w.heap.size + 1) rfl z (fun X h => h.2.2.2.2.2.2)) hHeld ?_
  simp only [Act.put, List.setIfInBounds_toArray, List.set_cons_zero, List.set_cons_succ]
  refine wpAnyH_ready (rs := [1]) (by kernel_rfl) (by simp) ?_
  refine AllReadyH.cons (o := _) rfl (fun K hK => ?_) AllReadyH.nil
  replace hHeld : Below W.heap.size W w1.drew ∧ w1.drew.cell? ⟨w.heap.size, 0, none⟩ = some (.int .u64 ix) ∧ w1.drew.cell? ⟨w.heap.size, 1, none⟩ = some (.int .u64 tm) ∧ w1.drew.cell? ⟨w.heap.size, 2, none⟩ = some (.slice da dn dc) ∧ w1.drew.cell? ⟨w.heap.size, 3, none⟩ = some (.slice ma mn mc) ∧ w1.drew.cell? ⟨w.heap.size, 4, none⟩ = some (.pointer rp) ∧ Box42 w1.drew (w.heap.size + 1) z := hHeld
  go_simp
  go_at_call 15
  refine Calls.mono (snapsize_any ix tm da dn dc ma mn mc ms rp rm _ (by omega) (Mems.later HM.out hHeld.1) (MemPtr.later HR.out hHeld.1)) ?_
  rintro e w2 ⟨z2, rfl, hz2, hB2⟩
  go_wp2_with fail
  refine hK.out _ _ (HK.out _ _ hHeld hB2) (fun hHeld => ?_)
  clear hK K
  try simp only [Act.put, List.setIfInBounds_toArray, List.set_cons_zero, List.set_cons_succ]
  refine wpAnyH_ready (rs := [3]) (by kernel_rfl) (by simp) ?_
  refine AllReadyH.cons (o := _) rfl (fun K hK => ?_) AllReadyH.nil
  replace hHeld : Below W.heap.size W w2 ∧ w2.cell? ⟨w.heap.size, 0, none⟩ = some (.int .u64 ix) ∧ w2.cell? ⟨w.heap.size, 1, none⟩ = some (.int .u64 tm) ∧ w2.cell? ⟨w.heap.size, 2, none⟩ = some (.slice da dn dc) ∧ w2.cell? ⟨w.heap.size, 3, none⟩ = some (.slice ma mn mc) ∧ w2.cell? ⟨w.heap.size, 4, none⟩ = some (.pointer rp) ∧ Box42 w2 (w.heap.size + 1) z := hHeld
  go_simp
  go_at_call 16
  refine Calls.mono (msgsize_z z es ms2 rm2 _ (Ents.later HE.out hHeld.1) (by omega) (Mems.later HM2.out hHeld.1) (MemPtr.later HR2.out hHeld.1)) ?_
  rintro e w3 ⟨z3, rfl, hz3, hB3⟩
  go_wp2_with fail
  refine hK.out _ _ (HK.out _ _ hHeld hB3) (fun hHeld => ?_)
  clear hK K
  try simp only [Act.put, List.setIfInBounds_toArray, List.set_cons_zero, List.set_cons_succ]
  refine wpAnyH_ready (rs := [4]) (by kernel_rfl) (by simp) ?_
  refine AllReadyH.cons (o := _) rfl (fun K hK => ?_) AllReadyH.nil
  replace hHeld : Below W.heap.size W w3 ∧ w3.cell? ⟨w.heap.size, 0, none⟩ = some (.int .u64 ix) ∧ w3.cell? ⟨w.heap.size, 1, none⟩ = some (.int .u64 tm) ∧ w3.cell? ⟨w.heap.size, 2, none⟩ = some (.slice da dn dc) ∧ w3.cell? ⟨w.heap.size, 3, none⟩ = some (.slice ma mn mc) ∧ w3.cell? ⟨w.heap.size, 4, none⟩ = some (.pointer rp) ∧ Box42 w3 (w.heap.size + 1) z := hHeld
  go_simp
  go_at_call 14
  refine Calls.mono (zadd_any _ _ _ hz2 hz3) ?_
  rintro e w4 ⟨rfl, rfl⟩
  go_wp2_with fail
  refine hK.out _ _ (hHeld) (fun hHeld => ?_)
  clear hK K
  try simp only [Act.put, List.setIfInBounds_toArray, List.set_cons_zero, List.set_cons_succ]
  refine wpAnyH_takeD (i := 5) (some 19) (.bool (decide (1048576 < zadd z2 z3))) rfl rfl (by kernel_rfl) (by kernel_rfl) (by kernel_rfl) (fun _ _ _ h => h) (Or.inl ⟨by rfl, ?_⟩) hHeld ?_
  · (intro X hSw; (try dsimp only at hSw); go_simp)
  simp only [Act.put, List.setIfInBounds_toArray, List.set_cons_zero, List.set_cons_succ]
  refine wpAnyH_done (by kernel_rfl) ?_ _
  refine NoPanic.normal ?_
  have hB04 : Below W.heap.size W w4 := hHeld.1
  have hq := zadd_nn hz2 hz3
  generalize zadd z2 z3 = q at *
  clear hHeld hz2 hz3 hB2 hB3 HK HS0
  by_cases hbig : 1048576 < q
  · go_wp2
    go_ret
    exact ⟨rfl, HB.out.trans (hB04.mono HB.out.size)⟩
  have hbig' : decide (1048576 < q) = false := by simp; omega
  clear hq
  obtain ⟨f4, f5, f15, f16, f17, f19, f20⟩ := (Box42.later HZ.out hB04).cells
  by_cases hszb : 65536 < z.sz
  · go_wp2
    go_ret
    exact ⟨rfl, HB.out.trans (hB04.mono HB.out.size)⟩
  have hszb' : decide (65536 < z.sz) = false := by simp; omega
  obtain ⟨e0, e1, e2, e3, e4⟩ := (Box28.later HX.out hB04).cells
  go_wp2_with fail
  refine (zsnapshot_any ix tm da dn dc bs ma mn mc ms rp rm _ (Bytes.later HD.out hB04) (by omega) (Mems.later HM.out hB04) k1 (MemPtr.later HR.out hB04)).mono ?_
  rintro e w9 ⟨hB9, vd, vm, vr, rfl, hcd, hcm, hcr⟩
  obtain ⟨xd, yd, zd, rfl⟩ := hcd.shape
  obtain ⟨xm, ym, zm, rfl⟩ := hcm.shape
  obtain ⟨xr, rfl⟩ := hcr.shape
  have hB09 := hB04.trans (hB9.mono hB04.size)
  have hlo : W.heap.size ≤ w4.heap.size := hB04.size
  clear hB9 e0 e1 e2 e3 e4 f4 f5 f15 f16 f17 f19 f20 hB04 hbig' hszb'
  have HBX : Hid (Below w9.heap.size w9 (w9.alloc (.cells #[.int .u64 ix, .int .u64 tm, .slice xd yd zd, .nilFunc, .int .i64 0, .slice xm ym zm, .pointer xr] 53))) := (Below.refl _ _).alloc (Nat.le_refl _) _
  have HB0 : Hid (Below W.heap.size W (w9.alloc (.cells #[.int .u64 ix, .int .u64 tm, .slice xd yd zd, .nilFunc, .int .i64 0, .slice xm ym zm, .pointer xr] 53))) := hB09.trans (HBX.out.mono hB09.size)
  have HSN : Hid (SnapAt (w9.alloc (.cells #[.int .u64 ix, .int .u64 tm, .slice xd yd zd, .nilFunc, .int .i64 0, .slice xm ym zm, .pointer xr] 53)) w9.heap.size ix tm (.slice xd yd zd) (.slice xm ym zm) (.pointer xr)) := World.alloc_heap_new w9 _
  go_wp2_with (first
    | (refine wpList_load_z rfl _ rfl (w.heap.size + 1) rfl z (Box42.later HZ.out HB0.out) ?_)
    | fail)
  obtain ⟨W0, hW0⟩ : ∃ W0, w9.alloc (.cells #[.int .u64 ix, .int .u64 tm, .slice xd yd zd, .nilFunc, .int .i64 0, .slice xm ym zm, .pointer xr] 53) = W0 := ⟨_, rfl⟩
  have hBX := HBX.out
  have hB00 := HB0.out
  have hsn := HSN.out
  rw [hW0] at hBX hB00 hsn ⊢
  clear HBX HB0 HSN hW0
  have hcd0 := hcd.later hBX
  have hcm0 := hcm.later hBX
  have hcr0 := hcr.later hBX
  obtain ⟨bS, hbS⟩ : ∃ bS, w9.heap.size = bS := ⟨_, rfl⟩
  have hbS1 : W.heap.size ≤ bS := by rw [← hbS]; exact hB09.size
  rw [hbS] at hsn ⊢
  clear hbS hcd hcm hcr hBX hB09
  refine (zmessage_z z es bs2 ms2 rm2 _ (Ents.later HE.out hB00) k2 HSM.out (Bytes.later HD2.out hB00) (by omega) (Mems.later HM2.out hB00) k5 (MemPtr.later HR2.out hB00)).mono ?_
  rintro e w11 ⟨hB11, xe, ye, ze, x2, y2, c2, x3, y3, c3, x4, Bq, rfl, hBq, hp2, ⟨B3, hp3⟩, B4, hp4⟩
  have hlo2 := hB00.size
  have hB011 := hB00.trans (hB11.mono hB00.size)
  have hcd1 := hcd0.later hB11
  have hcm1 := hcm0.later hB11
  have hcr1 := hcr0.later hB11
  have hs11 := hsn.later hB11
  have hbS2 : bS < W0.heap.size := hsn.lt
  have hlo3 := hB11.size
  clear hcd0 hcm0 hcr0 hsn hB11 hB00
  have HB011 := hid (hB011)
  have HP2 := hid (hp2)
  have HP3 := hid (hp3)
  have HP4 := hid (hp4)
  have HCD := hid (hcd1)
  have HCM := hid (hcm1)
  have HCR := hid (hcr1)
  have HS11 := hid (hs11)
  clear hp2 hp3 hp4 hcd1 hcm1 hcr1 hs11 hB011
  go_wp2_with (first
    | (refine wpList_store_mu rfl _ _ rfl _ rfl z xe ye ze _ _ _ _ _ _ _ _ _ _ _ rfl rfl ?_; intro W13 hB13 hlt13 hm13; have HMU := hid (hm13); clear hm13)
    | (refine wpList_load_mu rfl _ rfl _ rfl _ _ _ _ _ _ _ _ _ _ HMU.out ?_)
    | fail)
  have hB013 : Below W.heap.size W W13 := HB011.out.trans (hB13.mono HB011.out.size)
  have hcd := HCD.out.later hB13
  have hcm := HCM.out.later hB13
  have hcr := HCR.out.later hB13
  have hp2 := HP2.out.later hB13
  have hp3 := HP3.out.later hB13
  have hp4 := HP4.out.later hB13
  have HSN := hid (SnapAt.later HS11.out hB13)
  obtain rfl : dn = yd := (hcd.len HD.out.2.1).symm
  obtain rfl : mn = ym := (hcm.len HM.out.2.1).symm
  obtain rfl := hp2.len HD2.out.2.1
  obtain rfl := hp3.len HM2.out.2.1
  have HDAT := hid (hcd.dat HD.out.2.1)
  have HDLO : Hid (∀ b, xd = some ⟨b, 0, none⟩ → W.heap.size ≤ b) := fun b hb => Nat.le_trans hlo (hcd.atleast b hb)
  have HDAT2 := hid (hp2.dat HD2.out.2.1)
  have HDLO2 : Hid (∀ b, x2 = some ⟨b, 0, none⟩ → W.heap.size ≤ b) := fun b hb => Nat.le_trans hlo2 (Nat.le_trans hBq (hp2.atleast b hb))
  have HMEMS := hid (hcm.mems HM.out.2.1 k1)
  have HMN := hid (hcm.nil)
  have HPTR := hid (hcr.same (MemPtr.later HR.out hB013))
  have HMEMS2 := hid (hp3.mems HM2.out.2.1 k5)
  have HMN2 := hid (hp3.nil)
  have HPTR2 := hid (hp4.same (MemPtr.later HR2.out hB013))
  have HB013 := hid (hB013)
  have HMU13 := hid (HMU.out)
  clear hcd hcm hcr hp2 hp3 hp4 HCD HCM HCR HP2 HP3 HP4 HS11 HB011 hB013 HMU HE HSM
  by_cases h0 : z.off = 0
  · have hz0 : (z.off == 0) = true := by simp [h0]
    refine (zzA_mu bS ix tm _ _ _ _ z.li z.lt z.off z.sz h0 x2 z.pn c2 (seg bs2 0 z.pn) x3 z.mn c3 x4 W13 HSN.out HS.out (by omega) HDAT2.out.piece (by omega)).mono ?_
    rintro e w14 ⟨rfl, hk14, x, zx, hs14, ho14⟩
    have hBK : Below W.heap.size W w14 := below_of_kept HB013.out hk14 hbS1 HB013.out.size
    obtain ⟨f4, f5, f15, f16, f17, f19, f20⟩ := (Box42.later HZ.out hBK).cells
    have HK14 := hid (hk14)
    have HS14 := hid (hs14)
    have HO14 := hid (ho14)
    have HBK := hid (hBK)
    clear hk14 hs14 ho14 hBK h0
    go_wp2_with fail
    refine (snapis_any bS z.li z.lt x z.pn zx bs2 x3 z.mn c3 ms2 x4 rm2 z.pa z.pc z.ma z.mc z.rp w14 HS14.out (by omega) (owns_bytes HO14.out (by omega)) (Bytes.later HD2.out HBK.out) (Mems.keep HMEMS2.out HSN.out HK14.out) (Mems.later HM2.out HBK.out) HMN2.out (SamePtr.keep HPTR2.out HSN.out HK14.out)).mono ?_
    rintro e w15 ⟨rfl, hB15⟩
    clear f4 f5 f15 f16 f17 f19 f20
    obtain ⟨e0, e1, e2, e3, e4, e5, e6⟩ := (SnapAt.later HS14.out hB15).cells
    go_wp2_with fail
    refine (databytes_any x z.pn zx _).mono ?_
    rintro e w16 ⟨rfl, hB16⟩
    have hB1416 := hB15.trans (hB16.mono hB15.size)
    clear e0 e1 e2 e3 e4 e5 e6 hB15 hB16
    have hbM : w11.heap.size ≠ bS := by omega
    have hm14 : w14.cell? ⟨w11.heap.size, 17, none⟩ = some (.slice x2 z.pn c2) := by
      have h1 := HMU13.out.data
      have h2 := HK14.out.block w11.heap.size HMU13.out.lt hbM
      simp only [World.cell?] at h1 ⊢
      rw [h2]; exact h1
    have hm16 := keepc hm14 hB1416
    by_cases hp0 : 0 < z.pn
    · obtain ⟨bp, rfl, rfl, hrow⟩ : ∃ bp, x2 = some ⟨bp, 0, none⟩ ∧ c2 = z.pn ∧ W13.rowIs bp 5 z.pn (fun j => .int .u8 (bs2 j)) := by
        rcases HDAT2.out with ⟨_, h, _⟩ | h
        · omega
        · exact h
      have hbp : bp ≠ bS := by
        rintro rfl
        have h1 := hrow.cell hp0
        rw [HSN.out.cells.1] at h1
        cases h1
      have hbpW : W.heap.size ≤ bp := HDLO2.out bp rfl
      have hbp13 : bp < W13.heap.size := hrow.lt
      have hrow16 : w16.rowIs bp 5 z.pn (fun j => .int .u8 (bs2 j)) := (hrow.of_block (HK14.out.block bp hbp13 hbp)).of_block (hB1416.block bp (by have := HK14.out.size; omega))
      have hc0 := hrow16.cell hp0
      have hf0 := hrow16.frozen 0
      obtain ⟨g, rfl, hg⟩ : ∃ g, x = some ⟨g, 0, none⟩ ∧ W13.heap.size ≤ g := by
        rcases HO14.out.2 with ⟨h, h1⟩ | ⟨g, cap, cur, h, hg, _⟩
        · omega
        · injection h with h1 h2 h3
          exact ⟨g, h1, hg⟩
      have hg0 : w14.cell? ⟨g, 0, none⟩ = some (.int .u8 (bs2 0)) := by
        obtain ⟨b, o, e, h⟩ := (owns_bytes HO14.out (by omega)).2.2 hp0
        cases e
        simpa using h 0 hp0
      have hg16 := keepc hg0 hB1416
      obtain ⟨bq, oq, hq1, hq2⟩ := (Bytes.later HD2.out HBK.out).2.2 hp0
      have hq0 := hq2 0 hp0
      have hqW : bq < W.heap.size := by
        obtain ⟨bq', oq', hq1', hq2'⟩ := HD2.out.2.2 hp0
        rw [hq1] at hq1'
        cases hq1'
        exact World.block_lt_of_cell? _ _ (hq2' 0 hp0)
      rw [Nat.add_zero] at hq0
      have hq16 := keepc hq0 hB1416
      have f17 := (Box42.later (Box42.later HZ.out HBK.out) hB1416).cells.2.2.2.2.1
      have hbel := HB.out.trans ((HBK.out.trans (hB1416.mono HBK.out.size)).mono HB.out.size)
      have hp0' : (0 : Int) < (z.pn : Int) := by omega
      have hlow := HB.out.size
      clear hq2 hq0 hg0 hm14 hrow hrow16 hB1416 HK14 HS14 HO14 HBK hbM
      go_wp2_with fail
      go_region
      go_wp2
      obtain ⟨X, hX⟩ : ∃ X, (w16.setCell ⟨bp, 0, none⟩ (.int .u8 (bits .xor .u8 (bs2 0) 255))).drew = X := ⟨_, rfl⟩
      have hbX : Below w.heap.size w X := by rw [← hX]; exact (hbel.setCell (by show w.heap.size ≤ bp; omega) _).drew
      have d1 : X.cell? ⟨g, 0, none⟩ = some (.int .u8 (bs2 0)) := by rw [← hX]; exact cell_far hg16 (by omega)
      have d2 : X.cell? ⟨w.heap.size + 1, 17, none⟩ = some (.slice z.pa z.pn z.pc) := by rw [← hX]; exact cell_far f17 (by omega)
      have d3 : X.cell? ⟨bq, oq, none⟩ = some (.int .u8 (bs2 0)) := by rw [← hX]; exact cell_far hq16 (by omega)
      rw [hX]
      clear hX hm16 hc0 hf0 hg16 f17 hq16
      go_quiet (fail)
      go_wp2
      go_ret
      exact ⟨rfl, bdrew hbX _⟩
    · have hp0' : decide ((0 : Int) < (z.pn : Int)) = false := by simp; omega
      go_wp2
      go_ret
      exact ⟨rfl, HB.out.trans ((HBK.out.trans (hB1416.mono HBK.out.size)).mono HB.out.size)⟩
  · have hz0 : (z.off == 0) = false := by rw [beq_eq_false_iff_ne]; exact h0
    have hwr := wrap_small (n := dn) (by omega)
    by_cases hBc : ix = z.li ∧ tm = z.lt ∧ z.off = dn
    · obtain ⟨b1, b2, b3⟩ := hBc
      have hn0 : 0 < dn := by omega
      have c1 : (ix == z.li) = true := by simp [b1]
      have c2' : (tm == z.lt) = true := by simp [b2]
      have c3' : (z.off == (dn : Int)) = true := by simp [b3]
      refine (zzD_mu W.heap.size bS ix tm xd dn zd (seg bs 0 dn) _ _ _ z.li z.lt z.off z.sz b1 b2 x2 z.pn c2 (seg bs2 0 z.pn) _ _ W13 HSN.out (HDAT.out.owns HDLO.out (by omega)) HB013.out.size b3 hn0 HDAT2.out.piece k4).mono ?_
      rintro e w14 ⟨rfl, hk14, x, zx, hs14, ho14⟩
      have hap := mem_apart HSN.out HDAT.out
      have hBK : Below W.heap.size W w14 := below_of_kept2 HB013.out hk14 hbS1 (own_base HDAT.out HDLO.out) HB013.out.size
      rw [seg_cat] at ho14
      have HM14 := hid (Mems.keep2 HMEMS.out hap hk14)
      have HP14 := hid (SamePtr.keep2 HPTR.out hap hk14)
      have HS14 := hid (hs14)
      have HO14 := hid (ho14)
      have HBK := hid (hBK)
      obtain ⟨f4, f5, f15, f16, f17, f19, f20⟩ := (Box42.later HZ.out hBK).cells
      obtain ⟨e0, e1, e2, e3, e4⟩ := (Box28.later HX.out hBK).cells
      clear hk14 hs14 ho14 hBK hap h0 b1 b2 b3
      go_wp2_with fail
      refine (zconcat_any da dn dc bs z.pa z.pn z.pc bs2 _ (Bytes.later HD.out HBK.out) (Bytes.later HD2.out HBK.out) k4).mono ?_
      rintro e w15 ⟨hB15, x5, z5, rfl, hb5⟩
      have hB015 := HBK.out.trans (hB15.mono HBK.out.size)
      have HB5 := hid (hb5)
      clear f4 f5 f15 f16 f17 f19 f20 e0 e1 e2 e3 e4 hb5
      obtain ⟨e0, e1, e2, e3, e4⟩ := (Box28.later HX.out hB015).cells
      go_wp2_with fail
      refine (snapis_any bS ix tm x (dn + z.pn) zx (cat bs dn bs2) xm mn zm ms xr rm x5 z5 ma mc rp w15 (SnapAt.later HS14.out hB15) k4 (Bytes.later (owns_bytes HO14.out k4) hB15) HB5.out (Mems.later HM14.out hB15) (Mems.later HM.out hB015) HMN.out (SamePtr.later HP14.out hB15)).mono ?_
      rintro e w16 ⟨rfl, hB16⟩
      go_wp2
      go_ret
      exact ⟨rfl, HB.out.trans ((hB015.trans (hB16.mono hB015.size)).mono HB.out.size)⟩
    · refine (zzC_mu bS ix tm xd dn zd _ _ _ z.li z.lt z.off z.sz x2 z.pn c2 _ _ W13 HSN.out h0 (by omega) (by omega)).mono ?_
      rintro e w14 ⟨rfl, hk14⟩
      have hBK := HB013.out.trans (hk14.mono HB013.out.size)
      obtain ⟨f4, f5, f15, f16, f17, f19, f20⟩ := (Box42.later HZ.out hBK).cells
      obtain ⟨e0, e1, e2, e3, e4⟩ := (Box28.later HX.out hBK).cells
      have HBK := hid (hBK)
      have HK14 := hid (hk14)
      have HNC := hid (hBc)
      have hcon : ∀ (Q : Ending → World → Prop), (∀ e w', TrueEnd w14 e w' → Q e w') → Calls Try.prog 20 #[.pointer (some ⟨bS, 0, none⟩), .int .u64 ix, .int .u64 tm, .slice da dn dc, .slice ma mn mc, .pointer rp] w14 Q := fun Q hQ =>
        (snapis_any bS ix tm xd dn zd bs xm mn zm ms xr rm da dc ma mc rp w14 (SnapAt.later HSN.out HK14.out) (by omega) (Bytes.later (HDAT.out.bytes (by omega)) HK14.out) (Bytes.later HD.out HBK.out) (Mems.later HMEMS.out HK14.out) (Mems.later HM.out HBK.out) HMN.out (SamePtr.later HPTR.out HK14.out)).mono hQ
      have HCON := hid (hcon)
      clear hk14 hBK hBc h0 hcon
      by_cases b1 : ix = z.li
      · have c1 : (ix == z.li) = true := by simp [b1]
        by_cases b2 : tm = z.lt
        · have c2' : (tm == z.lt) = true := by simp [b2]
          have c3' : (z.off == (dn : Int)) = false := by rw [beq_eq_false_iff_ne]; intro b3; exact HNC.out ⟨b1, b2, b3⟩
          clear b1 b2
          go_wp2_with fail
          refine HCON.out _ ?_
          rintro e w16 ⟨rfl, hB16⟩
          go_wp2
          go_ret
          exact ⟨rfl, HB.out.trans ((HBK.out.trans (hB16.mono HBK.out.size)).mono HB.out.size)⟩
        · have c2' : (tm == z.lt) = false := by rw [beq_eq_false_iff_ne]; exact b2
          clear b1 b2
          go_wp2_with fail
          refine HCON.out _ ?_
          rintro e w16 ⟨rfl, hB16⟩
          go_wp2
          go_ret
          exact ⟨rfl, HB.out.trans ((HBK.out.trans (hB16.mono HBK.out.size)).mono HB.out.size)⟩
      · have c1 : (ix == z.li) = false := by rw [beq_eq_false_iff_ne]; exact b1
        clear b1
        go_wp2_with fail
        refine HCON.out _ ?_
        rintro e w16 ⟨rfl, hB16⟩
        go_wp2
        go_ret
        exact ⟨rfl, HB.out.trans ((HBK.out.trans (hB16.mono HBK.out.size)).mono HB.out.size)⟩

end Go.Proofs.Qxb6605768a

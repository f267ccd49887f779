/-
  Seat b6605768a. FnSnapshotTakeAssemblesInOrderPieces (6), walked.
-/
import Derived.Test.Qxb6605768aSame
import Derived.Test.Qxb6605768aBytes6
import Derived.Test.Qxb6605768aMsg
import Derived.RangeFuncRecord
namespace Go.Proofs.Qxb6605768a
open Go.RowKit
set_option linter.unusedVariables false

/-- The block of a ZSnapshot parameter, whole. -/
def Box28 (W : World) (b : Nat) (ix tm : Int) (da : Option Addr) (dn dc : Nat) (ma : Option Addr) (mn mc : Nat) (rp : Option Addr) : Prop :=
  W.heap[b]? = some (.cells #[.int .u64 ix, .int .u64 tm, .slice da dn dc, .slice ma mn mc, .pointer rp] 28 (0, 0))
theorem Box28.later {w w' : World} {b : Nat} {ix tm : Int} {da : Option Addr} {dn dc : Nat} {ma : Option Addr} {mn mc : Nat} {rp : Option Addr} (h : Box28 w b ix tm da dn dc ma mn mc rp) (hb : Below w.heap.size w w') : Box28 w' b ix tm da dn dc ma mn mc rp :=
  (hb.block b (Array.getElem?_eq_some_iff.1 h).1).trans h
theorem Box28.cells {w : World} {b : Nat} {ix tm : Int} {da : Option Addr} {dn dc : Nat} {ma : Option Addr} {mn mc : Nat} {rp : Option Addr} (h : Box28 w b ix tm da dn dc ma mn mc rp) :
    w.cell? ⟨b, 0, none⟩ = some (.int .u64 ix) ∧ w.cell? ⟨b, 1, none⟩ = some (.int .u64 tm) ∧ w.cell? ⟨b, 2, none⟩ = some (.slice da dn dc) ∧ w.cell? ⟨b, 3, none⟩ = some (.slice ma mn mc) ∧ w.cell? ⟨b, 4, none⟩ = some (.pointer rp) := by
  have h' : w.heap[b]? = _ := h
  refine ⟨?_, ?_, ?_, ?_, ?_⟩ <;> simp [World.cell?, h']

theorem CopyB.len {a : Option Addr} {n : Nat} {bs : Nat → Int} {B : Nat} {x : Option Addr} {y z : Nat} {w : World} (h : CopyB a n bs B (.slice x y z) w) (h0 : a = none → n = 0) : y = n := by
  rcases h with ⟨ha, h⟩ | ⟨_, b, _, h, _⟩
  · cases h; exact (h0 ha).symm
  · cases h; rfl
theorem CopyB.bytes {a : Option Addr} {n : Nat} {bs : Nat → Int} {B : Nat} {x : Option Addr} {y z : Nat} {w : World} (h : CopyB a n bs B (.slice x y z) w) (h0 : a = none → n = 0) (hn : n ≤ 1048576) : Bytes w x n bs := by
  rcases h with ⟨ha, h⟩ | ⟨_, b, _, h, hr⟩
  · cases h; obtain rfl := h0 ha; exact ⟨by omega, fun _ => rfl, fun h => absurd h (by omega)⟩
  · cases h; exact ⟨by omega, fun h => (by cases h), fun _ => ⟨b, 0, rfl, fun j hj => by rw [Nat.zero_add]; exact hr.cell hj⟩⟩
theorem CopyM.len {a : Option Addr} {n : Nat} {ms : Nat → Mem} {B : Nat} {x : Option Addr} {y z : Nat} {w : World} (h : CopyM a n ms B (.slice x y z) w) (h0 : a = none → n = 0) : y = n := by
  rcases h with ⟨ha, h⟩ | ⟨_, b, _, h, _⟩
  · cases h; exact (h0 ha).symm
  · cases h; rfl
theorem CopyM.mems {a : Option Addr} {n : Nat} {ms : Nat → Mem} {B : Nat} {x : Option Addr} {y z : Nat} {w : World} (h : CopyM a n ms B (.slice x y z) w) (h0 : a = none → n = 0) (hn : n ≤ 1048576) : Mems w x n ms := by
  rcases h with ⟨ha, h⟩ | ⟨_, b, _, h, _, hr⟩
  · cases h; obtain rfl := h0 ha; exact ⟨by omega, fun _ => rfl, fun h => absurd h (by omega)⟩
  · cases h; exact ⟨by omega, fun h => (by cases h), fun _ => ⟨b, 0, rfl, fun j hj => by rw [Nat.zero_add]; exact hr j hj⟩⟩
theorem CopyM.nil {a : Option Addr} {n : Nat} {ms : Nat → Mem} {B : Nat} {x : Option Addr} {y z : Nat} {w : World} (h : CopyM a n ms B (.slice x y z) w) : x.isNone = a.isNone := by
  rcases h with ⟨ha, h⟩ | ⟨ha, b, _, h, _⟩
  · cases h; rw [ha]
  · cases h; cases a with
    | none => exact absurd rfl ha
    | some _ => rfl
theorem CopyP.same {p : Option Addr} {m : Mem} {B : Nat} {x : Option Addr} {w : World} (h : CopyP p m B (.pointer x) w) (hp : MemPtr w p m) : SamePtr w x p m := by
  rcases h with ⟨ha, h⟩ | ⟨ha, b, _, h, hm⟩
  · cases h; exact .inl ⟨rfl, ha⟩
  · cases h
    rcases hp with hp | ⟨b2, o2, e, hm2⟩
    · exact absurd hp ha
    · exact .inr ⟨b, 0, b2, o2, rfl, e, hm, hm2⟩

theorem SamePtr.keep {w w' : World} {p1 p2 : Option Addr} {m : Mem} {bS : Nat} {ix tm : Int} {x : Option Addr} {k z : Nat} {vr : Value} {xm : Option Addr} {nm zm : Nat} (h : SamePtr w p1 p2 m) (hs : SnapAt w bS ix tm (.slice x k z) (.slice xm nm zm) vr) (hb : KeptBut w.heap.size bS w w') : SamePtr w' p1 p2 m := by
  rcases h with h | ⟨b1, o1, b2, o2, e1, e2, h1, h2⟩
  · exact .inl h
  · exact .inr ⟨b1, o1, b2, o2, e1, e2, h1.keep (h1.ne hs) hb, h2.keep (h2.ne hs) hb⟩

set_option maxRecDepth 100000 in
set_option maxHeartbeats 4000000 in
theorem law6 (ix tm : Int) (da : Option Addr) (dn dc : Nat) (bs : Nat → Int) (ma : Option Addr) (mn mc : Nat) (ms : Nat → Mem) (rp : Option Addr) (rm : Mem)
    (index term pl : Int) (da2 : Option Addr) (dn2 dc2 : Nat) (bs2 : Nat → Int) (ma2 : Option Addr) (mn2 mc2 : Nat) (ms2 : Nat → Mem) (rp2 : Option Addr) (rm2 : Mem) (w : World)
    (hd : Bytes w da dn bs) (hm : Mems w ma mn ms) (hr : MemPtr w rp rm) (hd2 : Bytes w da2 dn2 bs2) (hm2 : Mems w ma2 mn2 ms2) (hr2 : MemPtr w rp2 rm2)
    (ht0 : 0 ≤ term) (ht1 : term < 18446744073709551616) (hp0 : 0 ≤ pl) :
    Calls Try.prog 6 #[.agg #[.int .u64 ix, .int .u64 tm, .slice da dn dc, .slice ma mn mc, .pointer rp], .int .u64 index, .int .u64 term, .slice da2 dn2 dc2, .int .u64 pl, .slice ma2 mn2 mc2, .pointer rp2] w (TrueEnd w) := by
  obtain ⟨W, hW⟩ : ∃ W, w.alloc (.cells #[.int .u64 ix, .int .u64 tm, .slice da dn dc, .slice ma mn mc, .pointer rp] 28) = W := ⟨_, rfl⟩
  have hB : Below w.heap.size w W := by rw [← hW]; exact (Below.refl _ _).alloc (Nat.le_refl _) _
  have hbox : Box28 W w.heap.size ix tm da dn dc ma mn mc rp := by rw [← hW]; exact World.alloc_heap_new w _
  have hltW : w.heap.size < W.heap.size := (Array.getElem?_eq_some_iff.1 hbox).1
  have HD : Hid (Bytes W da dn bs) := hd.later hB
  have HM : Hid (Mems W ma mn ms) := hm.later hB
  have HR : Hid (MemPtr W rp rm) := hr.later hB
  have HD2 : Hid (Bytes W da2 dn2 bs2) := hd2.later hB
  have HM2 : Hid (Mems W ma2 mn2 ms2) := hm2.later hB
  have HR2 : Hid (MemPtr W rp2 rm2) := hr2.later hB
  have hdn := hd.1
  have hdn2 := hd2.1
  have HB : Hid (Below w.heap.size w W) := hB
  have HX : Hid (Box28 W w.heap.size ix tm da dn dc ma mn mc rp) := hbox
  obtain ⟨e0, e1, e2, e3, e4⟩ := hbox.cells
  clear hd hm hr hd2 hm2 hr2 hB hbox
  go_enter Try.func6, Try.ntmps6
  go_wp2_with fail
  clear hW e0 e1 e2 e3 e4
  refine (bytes6_any ix tm da dn dc ma mn mc ms rp rm index term pl da2 dn2 dc2 ma2 mn2 mc2 ms2 rp2 rm2 W hdn HM.out HR.out hdn2 HM2.out HR2.out).mono ?_
  rintro e w1 ⟨hB1, b, rfl, hb⟩
  cases b
  · clear hb
    go_wp2
    go_ret
    exact ⟨rfl, HB.out.trans (hB1.mono HB.out.size)⟩
  obtain ⟨k1, k2, k3, k4⟩ := hb rfl
  clear hb hdn hdn2
  obtain ⟨e0, e1, e2, e3, e4⟩ := (Box28.later HX.out hB1).cells
  go_wp2_with fail
  refine (snapsize_any ix tm da dn dc ma mn mc ms rp rm w1 (by omega) (Mems.later HM.out hB1) (MemPtr.later HR.out hB1)).mono ?_
  rintro e w2 ⟨z2, rfl, hz2, hB2⟩
  have hB02 := hB1.trans (hB2.mono hB1.size)
  clear e0 e1 e2 e3 e4 hB1 hB2
  go_wp2_with fail
  refine (zadd_any z2 dn2 _ hz2 (by omega)).mono ?_
  rintro e w3 ⟨rfl, rfl⟩
  have hq1 := zadd_nn hz2 (show (0 : Int) ≤ (dn2 : Int) by omega)
  generalize zadd z2 dn2 = q1 at *
  go_wp2_with fail
  refine (mssize_any ma2 mn2 mc2 ms2 _ (Mems.later HM2.out hB02)).mono ?_
  rintro e w4 ⟨z4, rfl, hz4, hB4⟩
  have hB04 := hB02.trans (hB4.mono hB02.size)
  clear hB02 hB4
  go_wp2_with fail
  refine (rsize_any rp2 rm2 _ (MemPtr.later HR2.out hB04)).mono ?_
  rintro e w5 ⟨z5, rfl, hz5, hB5⟩
  have hB05 := hB04.trans (hB5.mono hB04.size)
  clear hB04 hB5
  go_wp2_with fail
  refine (zadd_any z4 z5 _ hz4 hz5).mono ?_
  rintro e w6 ⟨rfl, rfl⟩
  have hq2 := zadd_nn hz4 hz5
  generalize zadd z4 z5 = q2 at *
  go_wp2_with fail
  refine (zadd_any q1 q2 _ hq1 hq2).mono ?_
  rintro e w7 ⟨rfl, rfl⟩
  have hq3 := zadd_nn hq1 hq2
  generalize zadd q1 q2 = q3 at *
  clear hz2 hz4 hz5 hq1 hq2
  by_cases hbig : 1048576 < q3
  · go_wp2
    go_ret
    exact ⟨rfl, HB.out.trans (hB05.mono HB.out.size)⟩
  by_cases hdl : 65536 < dn2
  · have hdl' : (65536 : Int) < (dn2 : Int) := by omega
    go_wp2
    go_ret
    exact ⟨rfl, HB.out.trans (hB05.mono HB.out.size)⟩
  have hdl' : decide ((65536 : Int) < (dn2 : Int)) = false := by simp; omega
  by_cases hp1 : pl = 0
  · have hp1' : (pl == 0) = true := by simp [hp1]
    clear hp1
    go_wp2
    go_ret
    exact ⟨rfl, HB.out.trans (hB05.mono HB.out.size)⟩
  have hp1' : (pl == 0) = false := by rw [beq_eq_false_iff_ne]; exact hp1
  by_cases hp2 : 65536 < pl
  · go_wp2
    go_ret
    exact ⟨rfl, HB.out.trans (hB05.mono HB.out.size)⟩
  have hp2' : decide (65536 < pl) = false := by simp; omega
  go_wp2_with fail
  refine (zbytes_any da2 dn2 dc2 bs2 _ k3 (Bytes.later HD2.out hB05)).mono ?_
  rintro e w8 ⟨hB8, v8, rfl, hc8⟩
  have hB08 := hB05.trans (hB8.mono hB05.size)
  clear hB05 hB8
  obtain ⟨x8, y8, z8, rfl⟩ := hc8.shape
  obtain ⟨e0, e1, e2, e3, e4⟩ := (Box28.later HX.out hB08).cells
  go_wp2_with fail
  refine (zsnapshot_any ix tm da dn dc bs ma mn mc ms rp rm _ (Bytes.later HD.out hB08) k1 (Mems.later HM.out hB08) k2 (MemPtr.later HR.out hB08)).mono ?_
  rintro e w9 ⟨hB9, vd, vm, vr, rfl, hcd, hcm, hcr⟩
  obtain ⟨xd, yd, zd, rfl⟩ := hcd.shape
  obtain ⟨xm, ym, zm, rfl⟩ := hcm.shape
  obtain ⟨xr, rfl⟩ := hcr.shape
  have hB09 := hB08.trans (hB9.mono hB08.size)
  have hc9 := hc8.later hB9
  clear hB08 hB9 e0 e1 e2 e3 e4 hc8 hcd hcm hcr
  go_wp2_with fail
  obtain ⟨W0, hW0⟩ : ∃ W0, w9.alloc (.cells #[.int .u64 ix, .int .u64 tm, .slice xd yd zd, .nilFunc, .int .i64 0, .slice xm ym zm, .pointer xr] 53) = W0 := ⟨_, rfl⟩
  have hBx : Below w9.heap.size w9 W0 := by rw [← hW0]; exact (Below.refl _ _).alloc (Nat.le_refl _) _
  have hsn : SnapAt W0 w9.heap.size ix tm (.slice xd yd zd) (.slice xm ym zm) (.pointer xr) := by rw [← hW0]; exact World.alloc_heap_new w9 _
  obtain ⟨bS, hbS⟩ : ∃ bS, w9.heap.size = bS := ⟨_, rfl⟩
  have hbS1 : W.heap.size ≤ bS := by rw [← hbS]; exact hB09.size
  have hB10 : Below W.heap.size W W0 := hB09.trans (hBx.mono hB09.size)
  have hc10 := hc9.later hBx
  rw [hbS] at hsn ⊢
  rw [hW0]
  have hne8 : ∀ b, x8 = some ⟨b, 0, none⟩ → b ≠ bS := by
    intro b hb
    rcases hc9 with ⟨_, h⟩ | ⟨_, b', _, h, hr⟩
    · cases h; cases hb
    · cases h; cases hb; have := hr.lt; omega
  have HNE : Hid _ := hne8
  clear hW0 hBx hbS hB09 hc9 hne8
  refine (zmembers_any ma2 mn2 mc2 ms2 _ k4 (Mems.later HM2.out hB10)).mono ?_
  rintro e w11 ⟨hB11, v11, rfl, hm11⟩
  obtain ⟨x11, y11, z11, rfl⟩ := hm11.shape
  have hB011 := hB10.trans (hB11.mono hB10.size)
  have hc11 := hc10.later hB11
  have hs11 := hsn.later hB11
  clear hB10 hB11 hc10 hsn
  go_wp2_with fail
  refine (zremoved_any rp2 rm2 _ (MemPtr.later HR2.out hB011)).mono ?_
  rintro e w12 ⟨hB12, v12, rfl, hp12⟩
  obtain ⟨x12, rfl⟩ := hp12.shape
  have hB012 := hB011.trans (hB12.mono hB011.size)
  have hc12 := hc11.later hB12
  have hs12 := hs11.later hB12
  have hm12 := hm11.later hB12
  clear hB011 hB12 hc11 hs11 hm11
  have hy8 := hc12.len HD2.out.2.1
  have hy11 := hm12.len HM2.out.2.1
  subst hy8 hy11
  have hdat := hc12.dat HD2.out.2.1
  have hmems := hm12.mems HM2.out.2.1 k4
  have hmnil := hm12.nil
  have hptr := hp12.same (MemPtr.later HR2.out hB012)
  have hBw : Below w.heap.size w w12 := HB.out.trans (hB012.mono HB.out.size)
  have HDAT : Hid _ := hdat
  have HMEMS : Hid _ := hmems
  have HMEMS2 : Hid _ := Mems.later HM2.out hB012
  have HPTR : Hid _ := hptr
  have HBW : Hid _ := hBw
  have HSN : Hid _ := hs12
  have HMN : Hid _ := hmnil
  clear hdat hmems hptr hBw hs12 hc12 hm12 hp12 hB012 hmnil
  obtain ⟨p, rfl⟩ : ∃ p : Nat, pl = p := ⟨pl.toNat, by omega⟩
  have hbSlt : bS < w12.heap.size := SnapAt.lt HSN.out
  by_cases hpe : (y8 : Int) < (p : Int)
  all_goals
    go_wp2_with (first
      | (refine wpList_slice_piece rfl _ _ _ rfl x8 y8 z8 bs2 _ _ 0 _ rfl rfl rfl (by omega) (by omega) HDAT.out ?_; intro pa pc hpc)
      | (refine wpList_msg_a rfl _ _ _ _ _ _ _ rfl _ _ _ _ _ _ _ _ _ _ _ rfl rfl rfl rfl rfl rfl rfl ?_)
      | (refine wpList_store_m59 rfl _ _ rfl _ rfl _ _ _ _ _ _ _ _ _ _ _ rfl rfl ?_; intro W13 hB13 hlt13 hm13; have HM13 : Hid _ := hm13; clear hm13)
      | (refine wpList_load_m59 rfl _ rfl _ rfl _ _ _ _ _ _ _ _ _ HM13.out ?_)
      | fail)
    refine (zzA_m bS ix tm _ _ _ index term _ pa _ pc (seg bs2 0 _) x11 y11 z11 x12 W13 (SnapAt.later HSN.out hB13) (by omega) (by omega) (Piece.later hpc hB13) (by omega)).mono ?_
    rintro e w14 ⟨rfl, hk14, x, z, hs14, ho14⟩
    have HI : Hid (Inv6 bS index term y8 bs2 (.slice x11 y11 z11) (.pointer x12) W13 _ w14) := ⟨hk14, by omega, by omega, x, z, hs14, ho14⟩
    clear hk14 hs14 ho14 hpc
    go_wp2_with fail
    go_loopw [21] (fun off wr => ∃ o : Nat, off = .int .u64 o ∧ Inv6 bS index term y8 bs2 (.slice x11 y11 z11) (.pointer x12) W13 o wr) (fun off _ => y8 - (intOf off).toNat)
    case atStart => exact ⟨_, rfl, HI.out⟩
    case round =>
      obtain ⟨o, rfl, hI⟩ := hrel
      have HI2 : Hid (Inv6 bS index term y8 bs2 (.slice x11 y11 z11) (.pointer x12) W13 o wr) := hI
      clear hI
      obtain ⟨hkr, ho1, ho2, -⟩ := HI2.out
      have hlr : W13.heap.size ≤ wr.heap.size := hkr.size
      have HKR : Hid _ := hkr
      clear hkr
      by_cases hlt : (o : Int) < (y8 : Int)
      · have ho0 : 0 < o := by omega
        have HDR : Hid (Dat wr x8 y8 z8 bs2) := ((Dat.later HDAT.out hB13).keep HKR.out HNE.out)
        by_cases hq : (y8 : Int) < (o : Int) + (p : Int)
        all_goals
          go_wp2_with (first
            | (refine wpList_slice_piece rfl _ _ _ rfl x8 y8 z8 bs2 _ _ o y8 rfl rfl rfl (by omega) (by omega) HDR.out ?_; intro pa2 pc2 hpc2; have HP2 : Hid _ := hpc2; clear hpc2)
            | (refine wpList_slice_piece rfl _ _ _ rfl x8 y8 z8 bs2 _ _ o (o + p) rfl rfl rfl (by omega) (by omega) HDR.out ?_; intro pa2 pc2 hpc2; have HP2 : Hid _ := hpc2; clear hpc2)
            | (refine wpList_msg_b rfl _ _ _ _ _ rfl _ _ _ _ _ _ _ rfl rfl rfl rfl rfl ?_)
            | (refine wpList_store_m59 rfl _ _ rfl _ rfl _ _ _ _ _ _ _ _ _ _ _ rfl rfl ?_; intro W15 hB15 hlt15 hm15; have HM15 : Hid _ := hm15; clear hm15)
            | (refine wpList_load_m59 rfl _ rfl _ rfl _ _ _ _ _ _ _ _ _ HM15.out ?_)
            | fail)
          obtain ⟨-, -, -, x, z, hs15, -⟩ := Inv6.later HI2.out hB15
          refine (zzC_m bS index term x o z _ _ index _ _ _ pa2 _ pc2 _ _ W15 hs15 (by omega) (.inr (.inl (xor_one_ne term ht0 ht1))) (by omega)).mono ?_
          rintro e w16 ⟨rfl, hB16⟩
          have hB16' := hB15.trans (hB16.mono hB15.size)
          have HI3 : Hid (Inv6 bS index term y8 bs2 (.slice x11 y11 z11) (.pointer x12) W13 _ w16) := Inv6.later HI2.out hB16'
          have HP3 : Hid _ := Piece.later HP2.out hB16'
          have hlr2 : W13.heap.size ≤ w16.heap.size := Nat.le_trans hlr hB16'.size
          clear hs15 hB15 hB16 hB16' HM15 hlt15
          go_wp2_with (first
            | (refine wpList_msg_b rfl _ _ _ _ _ rfl _ _ _ _ _ _ _ rfl rfl rfl rfl rfl ?_)
            | (refine wpList_store_m59 rfl _ _ rfl _ rfl _ _ _ _ _ _ _ _ _ _ _ rfl rfl ?_; intro W17 hB17 hlt17 hm17; have HM17 : Hid _ := hm17; clear hm17)
            | (refine wpList_load_m59 rfl _ rfl _ rfl _ _ _ _ _ _ _ _ _ HM17.out ?_)
            | fail)
          obtain ⟨-, -, -, x, z, hs17, hw17⟩ := Inv6.later HI3.out hB17
          refine (zzB_m W13.heap.size bS index term x o z _ _ _ _ _ pa2 _ pc2 (seg bs2 o _) _ _ W17 hs17 hw17 (by omega) (by omega) rfl ho0 ((Piece.later HP3.out hB17).cast (by omega)) (by omega)).mono ?_
          rintro e w18 ht18
          have hI4 := Inv6.step' (Inv6.later HI3.out hB17) (by first | exact Nat.add_sub_cancel' (by omega) | rfl) (by omega) ho0 ht18
          obtain ⟨rfl, -⟩ := ht18
          have HI4 : Hid (Inv6 bS index term y8 bs2 (.slice x11 y11 z11) (.pointer x12) W13 _ w18) := hI4
          clear hI4 hs17 hw17 hB17 HM17 hlt17
          go_wp2_with (first
            | (refine wpList_msg_b rfl _ _ _ _ _ rfl _ _ _ _ _ _ _ rfl rfl rfl rfl rfl ?_)
            | (refine wpList_store_m59 rfl _ _ rfl _ rfl _ _ _ _ _ _ _ _ _ _ _ rfl rfl ?_; intro W19 hB19 hlt19 hm19; have HM19 : Hid _ := hm19; clear hm19)
            | (refine wpList_load_m59 rfl _ rfl _ rfl _ _ _ _ _ _ _ _ _ HM19.out ?_)
            | fail)
          obtain ⟨-, -, -, x, z, hs19, -⟩ := Inv6.later HI4.out hB19
          refine (zzC_m bS index term x _ z _ _ index _ _ _ pa2 _ pc2 _ _ W19 hs19 (by omega) (.inr (.inr (by omega))) (by omega)).mono ?_
          rintro e w20 ⟨rfl, hB20⟩
          have HI5 : Hid (Inv6 bS index term y8 bs2 (.slice x11 y11 z11) (.pointer x12) W13 _ w20) := Inv6.later HI4.out (hB19.trans (hB20.mono hB19.size))
          clear hs19 hB19 hB20 HM19 hlt19
          go_wp2_with fail
          go_roundw
          case rel => exact ⟨_, by first | rfl | (push_cast; rfl), HI5.out⟩
          case measure => simp [intOf]; omega
      · obtain rfl : o = y8 := by omega
        obtain ⟨-, -, -, x, z, hsr, hor⟩ := HI2.out
        go_wp2_with fail
        have hs13 := SnapAt.later HSN.out hB13
        refine (snapis_any bS index term x _ z bs2 x11 y11 z11 ms2 x12 rm2 x8 z8 ma2 mc2 rp2 wr hsr (by omega) (owns_bytes hor (by omega)) (((Dat.later HDAT.out hB13).keep HKR.out HNE.out).bytes (by omega)) ((Mems.later HMEMS.out hB13).keep hs13 HKR.out) ((Mems.later HMEMS2.out hB13).keep hs13 HKR.out) HMN.out ((SamePtr.later HPTR.out hB13).keep hs13 HKR.out)).mono ?_
        rintro e w21 ⟨rfl, hB21⟩
        go_wp2
        go_ret
        have hBX : Below w.heap.size w wr := below_of_kept (HBW.out.trans (hB13.mono HBW.out.size)) HKR.out (by omega) (by have := HBW.out.size; omega)
        exact ⟨rfl, hBX.trans (hB21.mono hBX.size)⟩

end Go.Proofs.Qxb6605768a

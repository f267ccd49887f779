/-
  Seat b6605768a. FnUpToDateOwnLastIsThresholdAndMonotone (4), walked.
-/
import Derived.Test.Qxb6605768aSame
import Derived.Test.Qxb6605768aBytesP
import Derived.Test.Qxb6605768aUp
import Derived.Test.Qxb6605768aLaw3
import Derived.RangeFuncRecord
namespace Go.Proofs.Qxb6605768a
open Go.RowKit
set_option linter.unusedVariables false

theorem up_mono {oi ot i1 t1 i2 t2 : Int} (h1 : upTo oi ot i1 t1 = true) (h2 : upTo oi ot i2 t2 = false) : ¬ t1 < t2 ∧ ¬ (t2 = t1 ∧ i1 ≤ i2) := by
  unfold upTo at h1 h2
  split at h1 <;> split at h2 <;> simp at h1 h2 <;> omega

theorem ownT_range {tm : Int} {ln : Nat} {es : Nat → Ent} (h : 0 ≤ tm ∧ tm ≤ 18446744073709551615) (h2 : ∀ j, j < ln → 0 ≤ (es j).term ∧ (es j).term ≤ 18446744073709551615) : 0 ≤ ownT tm ln es ∧ ownT tm ln es ≤ 18446744073709551615 := by
  unfold ownT
  split
  · exact h
  · exact h2 _ (by omega)

set_option maxRecDepth 100000 in
set_option maxHeartbeats 16000000 in
theorem law4 (t vf : Int) (la : Option Addr) (ln lc : Nat) (es : Nat → Ent) (cm ix tm : Int) (da : Option Addr) (dn dc : Nat) (bs : Nat → Int) (ma : Option Addr) (mn mc : Nat) (ms : Nat → Mem) (rp : Option Addr) (rm : Mem) (inc cid fo i1 t1 i2 t2 : Int) (w : World)
    (he : Ents w la ln es) (hd : Bytes w da dn bs) (hm : Mems w ma mn ms) (hr : MemPtr w rp rm) (hix : 0 ≤ ix) (hix2 : ix ≤ 18446744073709551615) (hot : 0 ≤ ownT tm ln es ∧ ownT tm ln es ≤ 18446744073709551615) :
    Calls Try.prog 4 #[.agg (pers t vf la ln lc cm ix tm da dn dc ma mn mc rp inc cid fo), .int .u64 i1, .int .u64 t1, .int .u64 i2, .int .u64 t2] w (TrueEnd w) := by
  obtain ⟨W, hW⟩ : ∃ W, w.alloc (.cells (pers t vf la ln lc cm ix tm da dn dc ma mn mc rp inc cid fo) 32) = W := ⟨_, rfl⟩
  have hB : Below w.heap.size w W := by rw [← hW]; exact (Below.refl _ _).alloc (Nat.le_refl _) _
  have hbox : Box32 W w.heap.size t vf la ln lc cm ix tm da dn dc ma mn mc rp inc cid fo := by rw [← hW]; exact World.alloc_heap_new w _
  have HE : Hid (Ents W la ln es) := he.later hB
  have HD : Hid (Bytes W da dn bs) := hd.later hB
  have HM : Hid (Mems W ma mn ms) := hm.later hB
  have HR : Hid (MemPtr W rp rm) := hr.later hB
  have hdn := hd.1
  have hlnn := he.1
  have HB : Hid (Below w.heap.size w W) := hB
  have HX : Hid (Box32 W w.heap.size t vf la ln lc cm ix tm da dn dc ma mn mc rp inc cid fo) := hbox
  obtain ⟨e0, e1, e2, e3, e4, e5, e6, e7, e8, e9, e10, e11⟩ := hbox.cells
  clear he hd hm hr hB hbox
  go_enter Try.func4, Try.ntmps4
  go_wp2_with fail
  clear hW e0 e1 e2 e3 e4 e5 e6 e7 e8 e9 e10 e11
  refine (bytes4_any t vf la ln lc es cm ix tm da dn dc ma mn mc ms rp rm inc cid fo i1 t1 i2 t2 W HE.out hdn HM.out HR.out).mono ?_
  rintro e w1 ⟨hB1, b, rfl, hb⟩
  cases b
  · clear hb
    go_wp2
    go_ret
    exact ⟨rfl, HB.out.trans (hB1.mono HB.out.size)⟩
  obtain ⟨k1, k2, k3, k4⟩ := hb rfl
  have HSM : Hid (Small es ln) := k2
  clear hb hdn hlnn k2
  obtain ⟨e0, e1, e2, e3, e4, e5, e6, e7, e8, e9, e10, e11⟩ := (Box32.later HX.out hB1).cells
  go_wp2_with fail
  refine (persize_any t vf la ln lc es cm ix tm da dn dc ma mn mc ms rp rm inc cid fo w1 (Ents.later HE.out hB1) (by omega) (Mems.later HM.out hB1) (MemPtr.later HR.out hB1)).mono ?_
  rintro e w2 ⟨z2, rfl, hz2, hB2⟩
  have hB02 := hB1.trans (hB2.mono hB1.size)
  clear e0 e1 e2 e3 e4 e5 e6 e7 e8 e9 e10 e11 hB1 hB2
  by_cases hbig : 1048576 < z2
  · go_wp2
    go_ret
    exact ⟨rfl, HB.out.trans (hB02.mono HB.out.size)⟩
  have hbig' : decide (1048576 < z2) = false := by simp; omega
  obtain ⟨e0, e1, e2, e3, e4, e5, e6, e7, e8, e9, e10, e11⟩ := (Box32.later HX.out hB02).cells
  by_cases hov : 18446744073709551615 - (ln : Int) < ix
  · go_wp2
    go_ret
    exact ⟨rfl, HB.out.trans (hB02.mono HB.out.size)⟩
  have hov' : decide (18446744073709551615 - (ln : Int) < ix) = false := by simp; omega
  go_wp2_with fail
  refine (zpersistent_any t vf la ln lc es cm ix tm da dn dc bs ma mn mc ms rp rm inc cid fo w2 (Ents.later HE.out hB02) k1 HSM.out (Bytes.later HD.out hB02) k3 (Mems.later HM.out hB02) k4 (MemPtr.later HR.out hB02)).mono ?_
  rintro e w3 ⟨hB3, bP, rfl, hP3⟩
  have HP3 : Hid (PersAt w3 bP ix tm ln es) := hP3
  have hB03 := hB02.trans (hB3.mono hB02.size)
  have hno : ix + (ln : Int) ≤ 18446744073709551615 := by omega
  clear e0 e1 e2 e3 e4 e5 e6 e7 e8 e9 e10 e11 hB02 hB3 hP3 hbig hbig' hz2 hov hov'
  obtain ⟨e0, e1, e2, e3, e4, e5, e6, e7, e8, e9, e10, e11⟩ := (Box32.later HX.out hB03).cells
  go_wp2_with fail
  refine (zlast_any t vf la ln lc es cm ix tm da dn dc ma mn mc rp inc cid fo w3 (Ents.later HE.out hB03) k1 hix hno).mono ?_
  rintro e w4 ⟨rfl, hB4⟩
  have hB04 := hB03.trans (hB4.mono hB03.size)
  have HP4 : Hid (PersAt w4 bP ix tm ln es) := PersAt.later HP3.out hB4
  have hBW : Below w.heap.size w w4 := HB.out.trans (hB04.mono HB.out.size)
  clear e0 e1 e2 e3 e4 e5 e6 e7 e8 e9 e10 e11 hB04 hB4 hB03 HP3 HB HX HE HD HM HR
  have HUP : Hid (∀ (X : World) (index term : Int), Below w4.heap.size w4 X → Calls Try.prog 10 #[.pointer (some ⟨bP, 0, none⟩), .int .u64 index, .int .u64 term] X (UpEnd (ix + ln) (ownT tm ln es) index term X)) :=
    fun X index term hX => upto_any bP ix tm index term ln es X (PersAt.later HP4.out hX) k1 hix hno
  obtain ⟨ot, hote⟩ : ∃ ot, ownT tm ln es = ot := ⟨_, rfl⟩
  obtain ⟨oi, hoie⟩ : ∃ oi, ix + (ln : Int) = oi := ⟨_, rfl⟩
  have hoi0 : 0 ≤ oi := by omega
  have hoi1 : oi ≤ 18446744073709551615 := by omega
  obtain ⟨hot0, hot1⟩ := hot
  rw [hote] at HUP hot0 hot1
  rw [hoie] at HUP
  rw [hote, hoie]
  clear hote hoie hno hix hix2 k1 k3 k4 HP4 HSM
  go_wp2_with fail
  refine (HUP.out w4 oi ot (Below.refl _ _)).mono ?_
  rintro e w5 ⟨rfl, hB5⟩
  rw [show upTo oi ot oi ot = true by unfold upTo; rw [if_pos rfl, decide_eq_true (by omega)]]
  have hC5 : Below w4.heap.size w4 w5 := hB5
  by_cases c1 : 0 < oi
  all_goals first
    | (have c1p : 0 < oi := c1
       go_wp2_with fail
       refine (HUP.out _ (oi - 1) ot hC5).mono ?_
       rintro e w6 ⟨rfl, hB6⟩
       have hC6 := hC5.trans (hB6.mono hC5.size)
       rw [show upTo oi ot (oi - 1) ot = false by unfold upTo; rw [if_pos rfl, decide_eq_false (by omega)]])
    | (have c1' : decide (0 < oi) = false := by simp; omega
       have hC6 := hC5)
  all_goals (by_cases c2 : 0 < ot)
  all_goals first
    | (have c2p : 0 < ot := c2
       go_wp2_with fail
       refine (HUP.out _ 18446744073709551615 (ot - 1) hC6).mono ?_
       rintro e w7 ⟨rfl, hB7⟩
       have hC7 := hC6.trans (hB7.mono hC6.size)
       rw [show upTo oi ot 18446744073709551615 (ot - 1) = false by unfold upTo; rw [if_neg (by omega), decide_eq_false (by omega)]])
    | (have c2' : decide (0 < ot) = false := by simp; omega
       have hC7 := hC6)
  all_goals (by_cases c3 : ot < 18446744073709551615)
  all_goals first
    | (have c3p : ot < 18446744073709551615 := c3
       go_wp2_with fail
       refine (HUP.out _ 0 (ot + 1) hC7).mono ?_
       rintro e w8 ⟨rfl, hB8⟩
       have hC8 := hC7.trans (hB8.mono hC7.size)
       rw [show upTo oi ot 0 (ot + 1) = true by unfold upTo; rw [if_neg (by omega), decide_eq_true (by omega)]])
    | (have c3' : decide (ot < 18446744073709551615) = false := by simp; omega
       have hC8 := hC7)
  all_goals
    go_wp2_with fail
    refine (HUP.out _ i1 t1 hC8).mono ?_
    rintro e w9 ⟨rfl, hB9⟩
    have hC9 := hC8.trans (hB9.mono hC8.size)
    obtain ⟨a, ha⟩ : ∃ a, upTo oi ot i1 t1 = a := ⟨_, rfl⟩
    rw [ha]
    have HA : Hid _ := ha
    clear ha
    go_wp2_with fail
    refine (HUP.out _ i2 t2 hC9).mono ?_
    rintro e w10 ⟨rfl, hB10⟩
    have hC10 := hC9.trans (hB10.mono hC9.size)
    obtain ⟨b, hb⟩ : ∃ b, upTo oi ot i2 t2 = b := ⟨_, rfl⟩
    rw [hb]
    have HBb : Hid _ := hb
    clear hb
    have hfin : Below w.heap.size w w10 := hBW.trans (hC10.mono hBW.size)
    have HMON : Hid (a = true → b = false → ¬ t1 < t2 ∧ ¬ (t2 = t1 ∧ i1 ≤ i2)) := fun h1 h2 => up_mono (HA.out.trans h1) (HBb.out.trans h2)
    clear HA HBb
    by_cases f1 : t1 < t2
    · cases a
      · go_wp2
        go_ret
        exact ⟨rfl, hfin⟩
      · cases b
        · exact absurd f1 (HMON.out rfl rfl).1
        · go_wp2
          go_ret
          exact ⟨rfl, hfin⟩
    · have f1' : decide (t1 < t2) = false := by simp; omega
      by_cases f2 : t2 = t1
      · have f2' : (t2 == t1) = true := by simp [f2]
        have HF2 : Hid (t2 = t1) := f2
        clear f2
        by_cases f3 : i1 ≤ i2
        · cases a
          · go_wp2
            go_ret
            exact ⟨rfl, hfin⟩
          · cases b
            · exact absurd ⟨HF2.out, f3⟩ (HMON.out rfl rfl).2
            · go_wp2
              go_ret
              exact ⟨rfl, hfin⟩
        · have f3' : decide (i1 ≤ i2) = false := by simp; omega
          go_wp2
          go_ret
          exact ⟨rfl, hfin⟩
      · have f2' : (t2 == t1) = false := by rw [beq_eq_false_iff_ne]; exact f2
        clear f2
        go_wp2
        go_ret
        exact ⟨rfl, hfin⟩

end Go.Proofs.Qxb6605768a

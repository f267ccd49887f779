/-
  Seat b6605768a. FnUpToDateComparesLastEntries (3), walked.
-/
import Derived.Test.Qxb6605768aSame
import Derived.Test.Qxb6605768aBytesP
import Derived.Test.Qxb6605768aUp
import Derived.RangeFuncRecord
namespace Go.Proofs.Qxb6605768a
open Go.RowKit
set_option linter.unusedVariables false

/-- The block of a ZPersistent parameter, whole. -/
def Box32 (W : World) (b : Nat) (t vf : Int) (la : Option Addr) (ln lc : Nat) (cm ix tm : Int) (da : Option Addr) (dn dc : Nat) (ma : Option Addr) (mn mc : Nat) (rp : Option Addr) (inc cid fo : Int) : Prop :=
  W.heap[b]? = some (.cells (pers t vf la ln lc cm ix tm da dn dc ma mn mc rp inc cid fo) 32 (0, 0))
theorem Box32.later {w w' : World} {b : Nat} {t vf : Int} {la : Option Addr} {ln lc : Nat} {cm ix tm : Int} {da : Option Addr} {dn dc : Nat} {ma : Option Addr} {mn mc : Nat} {rp : Option Addr} {inc cid fo : Int} (h : Box32 w b t vf la ln lc cm ix tm da dn dc ma mn mc rp inc cid fo) (hb : Below w.heap.size w w') : Box32 w' b t vf la ln lc cm ix tm da dn dc ma mn mc rp inc cid fo :=
  (hb.block b (Array.getElem?_eq_some_iff.1 h).1).trans h
theorem Box32.cells {w : World} {b : Nat} {t vf : Int} {la : Option Addr} {ln lc : Nat} {cm ix tm : Int} {da : Option Addr} {dn dc : Nat} {ma : Option Addr} {mn mc : Nat} {rp : Option Addr} {inc cid fo : Int} (h : Box32 w b t vf la ln lc cm ix tm da dn dc ma mn mc rp inc cid fo) :
    w.cell? ⟨b, 0, none⟩ = some (.int .u64 t) ∧ w.cell? ⟨b, 1, none⟩ = some (.int .i64 vf) ∧ w.cell? ⟨b, 2, none⟩ = some (.slice la ln lc) ∧ w.cell? ⟨b, 3, none⟩ = some (.int .u64 cm) ∧ w.cell? ⟨b, 4, none⟩ = some (.int .u64 ix) ∧ w.cell? ⟨b, 5, none⟩ = some (.int .u64 tm) ∧ w.cell? ⟨b, 6, none⟩ = some (.slice da dn dc) ∧ w.cell? ⟨b, 7, none⟩ = some (.slice ma mn mc) ∧ w.cell? ⟨b, 8, none⟩ = some (.pointer rp) ∧ w.cell? ⟨b, 9, none⟩ = some (.int .u64 inc) ∧ w.cell? ⟨b, 10, none⟩ = some (.int .u64 cid) ∧ w.cell? ⟨b, 11, none⟩ = some (.int .u64 fo) := by
  have h' : w.heap[b]? = _ := h
  refine ⟨?_, ?_, ?_, ?_, ?_, ?_, ?_, ?_, ?_, ?_, ?_, ?_⟩ <;> simp [World.cell?, h']

set_option maxRecDepth 100000 in
set_option maxHeartbeats 8000000 in
theorem law3 (t vf : Int) (la : Option Addr) (ln lc : Nat) (es : Nat → Ent) (cm ix tm : Int) (da : Option Addr) (dn dc : Nat) (bs : Nat → Int) (ma : Option Addr) (mn mc : Nat) (ms : Nat → Mem) (rp : Option Addr) (rm : Mem) (inc cid fo index term : Int) (w : World)
    (he : Ents w la ln es) (hd : Bytes w da dn bs) (hm : Mems w ma mn ms) (hr : MemPtr w rp rm) (hix : 0 ≤ ix) (hix2 : ix ≤ 18446744073709551615) :
    Calls Try.prog 3 #[.agg (pers t vf la ln lc cm ix tm da dn dc ma mn mc rp inc cid fo), .int .u64 index, .int .u64 term] w (TrueEnd w) := by
  obtain ⟨W, hW⟩ : ∃ W, w.alloc (.cells (pers t vf la ln lc cm ix tm da dn dc ma mn mc rp inc cid fo) 32) = W := ⟨_, rfl⟩
  have hB : Below w.heap.size w W := by rw [← hW]; exact (Below.refl _ _).alloc (Nat.le_refl _) _
  have hbox : Box32 W w.heap.size t vf la ln lc cm ix tm da dn dc ma mn mc rp inc cid fo := by rw [← hW]; exact World.alloc_heap_new w _
  have HE : Hid (Ents W la ln es) := he.later hB
  have HD : Hid (Bytes W da dn bs) := hd.later hB
  have HM : Hid (Mems W ma mn ms) := hm.later hB
  have HR : Hid (MemPtr W rp rm) := hr.later hB
  have hdn := hd.1
  have hlnn := he.1
  have HB : Hid (Below w.heap.size w W) := hB
  have HX : Hid (Box32 W w.heap.size t vf la ln lc cm ix tm da dn dc ma mn mc rp inc cid fo) := hbox
  obtain ⟨e0, e1, e2, e3, e4, e5, e6, e7, e8, e9, e10, e11⟩ := hbox.cells
  clear he hd hm hr hB hbox
  go_enter Try.func3, Try.ntmps3
  go_wp2_with fail
  clear hW e0 e1 e2 e3 e4 e5 e6 e7 e8 e9 e10 e11
  refine (bytes3_any t vf la ln lc es cm ix tm da dn dc ma mn mc ms rp rm inc cid fo index term W HE.out hdn HM.out HR.out).mono ?_
  rintro e w1 ⟨hB1, b, rfl, hb⟩
  cases b
  · clear hb
    go_wp2
    go_ret
    exact ⟨rfl, HB.out.trans (hB1.mono HB.out.size)⟩
  obtain ⟨k1, k2, k3, k4⟩ := hb rfl
  have HSM : Hid (Small es ln) := k2
  clear hb hdn hlnn k2
  obtain ⟨e0, e1, e2, e3, e4, e5, e6, e7, e8, e9, e10, e11⟩ := (Box32.later HX.out hB1).cells
  go_wp2_with fail
  refine (persize_any t vf la ln lc es cm ix tm da dn dc ma mn mc ms rp rm inc cid fo w1 (Ents.later HE.out hB1) (by omega) (Mems.later HM.out hB1) (MemPtr.later HR.out hB1)).mono ?_
  rintro e w2 ⟨z2, rfl, hz2, hB2⟩
  have hB02 := hB1.trans (hB2.mono hB1.size)
  clear e0 e1 e2 e3 e4 e5 e6 e7 e8 e9 e10 e11 hB1 hB2
  by_cases hbig : 1048576 < z2
  · go_wp2
    go_ret
    exact ⟨rfl, HB.out.trans (hB02.mono HB.out.size)⟩
  have hbig' : decide (1048576 < z2) = false := by simp; omega
  obtain ⟨e0, e1, e2, e3, e4, e5, e6, e7, e8, e9, e10, e11⟩ := (Box32.later HX.out hB02).cells
  by_cases hov : 18446744073709551615 - (ln : Int) < ix
  · go_wp2
    go_ret
    exact ⟨rfl, HB.out.trans (hB02.mono HB.out.size)⟩
  have hov' : decide (18446744073709551615 - (ln : Int) < ix) = false := by simp; omega
  go_wp2_with fail
  refine (zpersistent_any t vf la ln lc es cm ix tm da dn dc bs ma mn mc ms rp rm inc cid fo w2 (Ents.later HE.out hB02) k1 HSM.out (Bytes.later HD.out hB02) k3 (Mems.later HM.out hB02) k4 (MemPtr.later HR.out hB02)).mono ?_
  rintro e w3 ⟨hB3, bP, rfl, hP3⟩
  have HP3 : Hid (PersAt w3 bP ix tm ln es) := hP3
  have hB03 := hB02.trans (hB3.mono hB02.size)
  have hno : ix + (ln : Int) ≤ 18446744073709551615 := by omega
  clear e0 e1 e2 e3 e4 e5 e6 e7 e8 e9 e10 e11 hB02 hB3 hP3 hbig hbig' hz2 hov hov'
  go_wp2_with fail
  refine (upto_any bP ix tm index term ln es w3 HP3.out k1 hix hno).mono ?_
  rintro e w4 ⟨rfl, hB4⟩
  have hB04 := hB03.trans (hB4.mono hB03.size)
  clear hB03 hB4 HP3
  obtain ⟨u, hu⟩ : ∃ u, upTo (ix + ln) (ownT tm ln es) index term = u := ⟨_, rfl⟩
  rw [hu]
  have HU : Hid _ := hu
  clear hu
  obtain ⟨e0, e1, e2, e3, e4, e5, e6, e7, e8, e9, e10, e11⟩ := (Box32.later HX.out hB04).cells
  go_wp2_with fail
  refine (zlast_any t vf la ln lc es cm ix tm da dn dc ma mn mc rp inc cid fo w4 (Ents.later HE.out hB04) k1 hix hno).mono ?_
  rintro e w5 ⟨rfl, hB5⟩
  have hB05 := hB04.trans (hB5.mono hB04.size)
  have hBW := HB.out.trans (hB05.mono HB.out.size)
  clear e0 e1 e2 e3 e4 e5 e6 e7 e8 e9 e10 e11 hB04 hB5 hB05
  obtain ⟨ot, hot⟩ : ∃ ot, ownT tm ln es = ot := ⟨_, rfl⟩
  obtain ⟨oi, hoi⟩ : ∃ oi, ix + (ln : Int) = oi := ⟨_, rfl⟩
  have hU := HU.out
  rw [hot, hoi] at hU
  rw [hot, hoi]
  clear HU hot hoi hno hix hix2 k1 k3 k4
  unfold upTo at hU
  by_cases c1 : term < ot
  · rw [if_neg (by omega), decide_eq_false (by omega)] at hU
    subst hU
    go_wp2
    go_ret
    exact ⟨rfl, hBW⟩
  · have c1' : decide (term < ot) = false := by simp; omega
    by_cases c2 : term = ot
    · rw [if_pos c2] at hU
      have c2' : (term == ot) = true := by simp [c2]
      clear c2
      by_cases c3 : index < oi
      · rw [decide_eq_false (by omega)] at hU
        subst hU
        go_wp2
        go_ret
        exact ⟨rfl, hBW⟩
      · have c3' : decide (index < oi) = false := by simp; omega
        rw [decide_eq_true (by omega)] at hU
        subst hU
        go_wp2
        go_ret
        exact ⟨rfl, hBW⟩
    · rw [if_neg c2, decide_eq_true (by omega)] at hU
      have c2' : (term == ot) = false := by rw [beq_eq_false_iff_ne]; exact c2
      clear c2
      subst hU
      go_wp2
      go_ret
      exact ⟨rfl, hBW⟩

end Go.Proofs.Qxb6605768a

/-
  Seat b6605768a. zSnapshot (17).
-/
import Derived.Test.Qxb6605768aClones
namespace Go.Proofs.Qxb6605768a
open Go.RowKit
set_option linter.unusedVariables false

theorem keepc {X Y : World} {a : Addr} {v : Value} (h : X.cell? a = some v) (hXY : Below X.heap.size X Y) : Y.cell? a = some v := (hXY.cell (World.block_lt_of_cell? _ _ h)).trans h
theorem keepf {X Y : World} {a : Addr} {v : Value} (hf : X.frozen? a = false) (h : X.cell? a = some v) (hXY : Below X.heap.size X Y) : Y.frozen? a = false := (hXY.frozen (World.block_lt_of_cell? _ _ h)).trans hf

theorem CopyB.later {a : Option Addr} {n : Nat} {bs : Nat → Int} {B : Nat} {v : Value} {w w' : World} (h : CopyB a n bs B v w) (hb : Below w.heap.size w w') : CopyB a n bs B v w' := by
  rcases h with h | ⟨h1, b, h2, h3, h4⟩
  · exact .inl h
  · exact .inr ⟨h1, b, h2, h3, h4.of_block (hb.block _ h4.lt)⟩
theorem CopyM.later {a : Option Addr} {n : Nat} {ms : Nat → Mem} {B : Nat} {v : Value} {w w' : World} (h : CopyM a n ms B v w) (hb : Below w.heap.size w w') : CopyM a n ms B v w' := by
  rcases h with h | ⟨h1, b, h2, h3, ⟨f, h4⟩, h5⟩
  · exact .inl h
  · exact .inr ⟨h1, b, h2, h3, ⟨f, h4.of_block (hb.block _ h4.lt)⟩, fun j hj => (h5 j hj).later hb⟩
theorem CopyP.later {p : Option Addr} {m : Mem} {B : Nat} {v : Value} {w w' : World} (h : CopyP p m B v w) (hb : Below w.heap.size w w') : CopyP p m B v w' := by
  rcases h with h | ⟨h1, b, h2, h3, h4⟩
  · exact .inl h
  · exact .inr ⟨h1, b, h2, h3, h4.later hb⟩
theorem CopyB.base {a : Option Addr} {n : Nat} {bs : Nat → Int} {B B' : Nat} {v : Value} {w : World} (h : CopyB a n bs B v w) (hb : B' ≤ B) : CopyB a n bs B' v w := by
  rcases h with h | ⟨h1, b, h2, h3⟩
  · exact .inl h
  · exact .inr ⟨h1, b, Nat.le_trans hb h2, h3⟩
theorem CopyM.base {a : Option Addr} {n : Nat} {ms : Nat → Mem} {B B' : Nat} {v : Value} {w : World} (h : CopyM a n ms B v w) (hb : B' ≤ B) : CopyM a n ms B' v w := by
  rcases h with h | ⟨h1, b, h2, h3⟩
  · exact .inl h
  · exact .inr ⟨h1, b, Nat.le_trans hb h2, h3⟩
theorem CopyP.base {p : Option Addr} {m : Mem} {B B' : Nat} {v : Value} {w : World} (h : CopyP p m B v w) (hb : B' ≤ B) : CopyP p m B' v w := by
  rcases h with h | ⟨h1, b, h2, h3⟩
  · exact .inl h
  · exact .inr ⟨h1, b, Nat.le_trans hb h2, h3⟩
theorem CopyB.shape {a : Option Addr} {n : Nat} {bs : Nat → Int} {B : Nat} {v : Value} {w : World} (h : CopyB a n bs B v w) : ∃ x y z, v = .slice x y z := by
  rcases h with ⟨_, h⟩ | ⟨_, b, _, h, _⟩
  · exact ⟨_, _, _, h⟩
  · exact ⟨_, _, _, h⟩
theorem CopyM.shape {a : Option Addr} {n : Nat} {ms : Nat → Mem} {B : Nat} {v : Value} {w : World} (h : CopyM a n ms B v w) : ∃ x y z, v = .slice x y z := by
  rcases h with ⟨_, h⟩ | ⟨_, b, _, h, _⟩
  · exact ⟨_, _, _, h⟩
  · exact ⟨_, _, _, h⟩
theorem CopyP.shape {p : Option Addr} {m : Mem} {B : Nat} {v : Value} {w : World} (h : CopyP p m B v w) : ∃ x, v = .pointer x := by
  rcases h with ⟨_, h⟩ | ⟨_, b, _, h, _⟩
  · exact ⟨_, h⟩
  · exact ⟨_, h⟩

/-- What zSnapshot leaves. -/
def SnapEnd (ix tm : Int) (da : Option Addr) (dn : Nat) (bs : Nat → Int) (ma : Option Addr) (mn : Nat) (ms : Nat → Mem) (rp : Option Addr) (rm : Mem) (w : World) (e : Ending) (w' : World) : Prop :=
  Below w.heap.size w w' ∧ ∃ vd vm vr, e = .returned (.agg #[.int .u64 ix, .int .u64 tm, vd, .nilFunc, .int .i64 0, vm, vr]) ∧ CopyB da dn bs w.heap.size vd w' ∧ CopyM ma mn ms w.heap.size vm w' ∧ CopyP rp rm w.heap.size vr w'

theorem cell_far {w : World} {b o c p : Nat} {v u : Value} (h : w.cell? ⟨b, o, none⟩ = some u) (hne : c ≠ b) : (w.setCell ⟨c, p, none⟩ v).cell? ⟨b, o, none⟩ = some u :=
  (World.cell?_setCell_other w ⟨c, p, none⟩ ⟨b, o, none⟩ v (fun e => hne (by injection e))).trans h

theorem MemAt.far {w : World} {b o c p : Nat} {m : Mem} {v : Value} (h : MemAt w b o m) (hne : c ≠ b) : MemAt (w.setCell ⟨c, p, none⟩ v) b o m := by
  obtain ⟨h1, h2, h3, h4, h5, h6⟩ := h
  exact ⟨cell_far h1 hne, cell_far h2 hne, cell_far h3 hne, cell_far h4 hne, cell_far h5 hne, h6⟩
theorem CopyB.set {a : Option Addr} {n : Nat} {bs : Nat → Int} {B c p : Nat} {v u : Value} {w : World} (h : CopyB a n bs B v w) (hc : c < B) : CopyB a n bs B v (w.setCell ⟨c, p, none⟩ u) := by
  rcases h with h | ⟨h1, b, h2, h3, h4⟩
  · exact .inl h
  · exact .inr ⟨h1, b, h2, h3, h4.setOther (a := ⟨c, p, none⟩) (by simp; omega) u⟩
theorem CopyM.set {a : Option Addr} {n : Nat} {ms : Nat → Mem} {B c p : Nat} {v u : Value} {w : World} (h : CopyM a n ms B v w) (hc : c < B) : CopyM a n ms B v (w.setCell ⟨c, p, none⟩ u) := by
  rcases h with h | ⟨h1, b, h2, h3, ⟨f, h4⟩, h5⟩
  · exact .inl h
  · exact .inr ⟨h1, b, h2, h3, ⟨f, h4.setOther (a := ⟨c, p, none⟩) (by simp; omega) u⟩, fun j hj => (h5 j hj).far (by omega)⟩
theorem CopyP.set {q : Option Addr} {m : Mem} {B c p : Nat} {v u : Value} {w : World} (h : CopyP q m B v w) (hc : c < B) : CopyP q m B v (w.setCell ⟨c, p, none⟩ u) := by
  rcases h with h | ⟨h1, b, h2, h3, h4⟩
  · exact .inl h
  · exact .inr ⟨h1, b, h2, h3, h4.far (by omega)⟩

/-- The snapshot's seven cells stored. -/
def putSnap (w : World) (b : Nat) (v0 v1 v2 v3 v4 v5 v6 : Value) : World :=
  ((((((w.setCell ⟨b, 0, none⟩ v0).setCell ⟨b, 1, none⟩ v1).setCell ⟨b, 2, none⟩ v2).setCell ⟨b, 3, none⟩ v3).setCell ⟨b, 4, none⟩ v4).setCell ⟨b, 5, none⟩ v5).setCell ⟨b, 6, none⟩ v6

theorem snap_end {da : Option Addr} {dn : Nat} {bs : Nat → Int} {ma : Option Addr} {mn : Nat} {ms : Nat → Mem} {rp : Option Addr} {rm : Mem} {w W w1 w2 w3 w4 : World} {x1 x3 x4 : Option Addr} {y1 z1 y3 z3 : Nat}
    (hW : W.heap.size = w.heap.size + 2) (hB1 : Below W.heap.size W w1) (hc1 : CopyB da dn bs W.heap.size (.slice x1 y1 z1) w1) (hB2 : Below w1.heap.size w1 w2) (hB3 : Below w2.heap.size w2 w3) (hc3 : CopyM ma mn ms w2.heap.size (.slice x3 y3 z3) w3)
    (hB4 : Below w3.heap.size w3 w4) (hc4 : CopyP rp rm w3.heap.size (.pointer x4) w4) (v0 v1 v2 v3 v4 v5 v6 : Value) :
    CopyB da dn bs w.heap.size (.slice x1 y1 z1) (putSnap w4 (w.heap.size + 1) v0 v1 v2 v3 v4 v5 v6) ∧ CopyM ma mn ms w.heap.size (.slice x3 y3 z3) (putSnap w4 (w.heap.size + 1) v0 v1 v2 v3 v4 v5 v6) ∧ CopyP rp rm w.heap.size (.pointer x4) (putSnap w4 (w.heap.size + 1) v0 v1 v2 v3 v4 v5 v6) := by
  have e1 := hB1.size
  have e2 := hB2.size
  have e3 := hB3.size
  have k1 := ((hc1.later hB2).later hB3).later hB4
  have k3 := (hc3.later hB4).base (B' := W.heap.size) (by omega)
  have k4 := hc4.base (B' := W.heap.size) (by omega)
  have hlt : w.heap.size + 1 < W.heap.size := by omega
  exact ⟨(((((((k1.set hlt).set hlt).set hlt).set hlt).set hlt).set hlt).set hlt).base (by omega), (((((((k3.set hlt).set hlt).set hlt).set hlt).set hlt).set hlt).set hlt).base (by omega), (((((((k4.set hlt).set hlt).set hlt).set hlt).set hlt).set hlt).set hlt).base (by omega)⟩

set_option maxRecDepth 100000 in
set_option maxHeartbeats 4000000 in
theorem zsnapshot_any (ix tm : Int) (da : Option Addr) (dn dc : Nat) (bs : Nat → Int) (ma : Option Addr) (mn mc : Nat) (ms : Nat → Mem) (rp : Option Addr) (rm : Mem) (w : World)
    (hd : Bytes w da dn bs) (hdn : dn ≤ 1048576) (hm : Mems w ma mn ms) (hmn : mn ≤ 1048576) (hr : MemPtr w rp rm) :
    Calls Try.prog 17 #[.agg #[.int .u64 ix, .int .u64 tm, .slice da dn dc, .slice ma mn mc, .pointer rp]] w (SnapEnd ix tm da dn bs ma mn ms rp rm w) := by
  go_enter Try.func17, Try.ntmps17
  go_wp2
  have HD : Hid _ := hd
  have HM : Hid _ := hm
  have HR : Hid _ := hr
  clear hd hm hr
  obtain ⟨W, hW⟩ : ∃ W, (w.alloc (.cells #[.int .u64 ix, .int .u64 tm, .slice da dn dc, .slice ma mn mc, .pointer rp] 28)).alloc (.cells #[.int .u64 0, .int .u64 0, .slice none 0 0, .nilFunc, .int .i64 0, .slice none 0 0, .pointer none] 53) = W := ⟨_, rfl⟩
  have HS0 : Hid (Below w.heap.size w W.drew ∧ (∃ f, W.drew.rowIs (w.heap.size + 1) 53 7 f) ∧ W.drew.cell? ⟨w.heap.size, 0, none⟩ = some (.int .u64 ix) ∧ W.drew.cell? ⟨w.heap.size, 1, none⟩ = some (.int .u64 tm) ∧ W.drew.cell? ⟨w.heap.size, 2, none⟩ = some (.slice da dn dc) ∧ W.drew.cell? ⟨w.heap.size, 3, none⟩ = some (.slice ma mn mc) ∧ W.drew.cell? ⟨w.heap.size, 4, none⟩ = some (.pointer rp)) := by
    rw [← hW]
    refine ⟨(((Below.refl _ _).alloc (Nat.le_refl _) _).alloc (by simp) _).drew, ?_, by simp, by simp, by simp, by simp, by simp⟩
    have h1 := World.rowIs_alloc (w.alloc (.cells #[.int .u64 ix, .int .u64 tm, .slice da dn dc, .slice ma mn mc, .pointer rp] 28)) #[.int .u64 0, .int .u64 0, .slice none 0 0, .nilFunc, .int .i64 0, .slice none 0 0, .pointer none] 53 (fun i => #[.int .u64 0, .int .u64 0, .slice none 0 0, .nilFunc, .int .i64 0, .slice none 0 0, .pointer none][i]!) (fun i hi => by rw [Array.getElem!_eq_getD, Array.getD_eq_getD_getElem?, Array.getElem?_eq_getElem hi]; rfl)
    rw [World.size_alloc] at h1
    exact ⟨_, h1.drew⟩
  have HZ : Hid (W.heap.size = w.heap.size + 2) := by rw [← hW]; simp [Hid]
  rw [hW]
  clear hW
  have HK : Hid (∀ X Y : World, (Below w.heap.size w X ∧ (∃ f, X.rowIs (w.heap.size + 1) 53 7 f) ∧ X.cell? ⟨w.heap.size, 0, none⟩ = some (.int .u64 ix) ∧ X.cell? ⟨w.heap.size, 1, none⟩ = some (.int .u64 tm) ∧ X.cell? ⟨w.heap.size, 2, none⟩ = some (.slice da dn dc) ∧ X.cell? ⟨w.heap.size, 3, none⟩ = some (.slice ma mn mc) ∧ X.cell? ⟨w.heap.size, 4, none⟩ = some (.pointer rp)) → Below X.heap.size X Y → (Below w.heap.size w Y ∧ (∃ f, Y.rowIs (w.heap.size + 1) 53 7 f) ∧ Y.cell? ⟨w.heap.size, 0, none⟩ = some (.int .u64 ix) ∧ Y.cell? ⟨w.heap.size, 1, none⟩ = some (.int .u64 tm) ∧ Y.cell? ⟨w.heap.size, 2, none⟩ = some (.slice da dn dc) ∧ Y.cell? ⟨w.heap.size, 3, none⟩ = some (.slice ma mn mc) ∧ Y.cell? ⟨w.heap.size, 4, none⟩ = some (.pointer rp))) := by
    rintro X Y ⟨s0, s1, s2, s3, s4, s5, s6⟩ hXY
    exact ⟨s0.trans (hXY.mono s0.size), (by obtain ⟨f, h⟩ := s1; exact ⟨f, h.of_block (hXY.block _ h.lt)⟩), keepc s2 hXY, keepc s3 hXY, keepc s4 hXY, keepc s5 hXY, keepc s6 hXY⟩
  have HK2 : Hid (∀ (X : World) (v0 v1 v2 v3 v4 v5 v6 : Value), (Below w.heap.size w X ∧ (∃ f, X.rowIs (w.heap.size + 1) 53 7 f) ∧ X.cell? ⟨w.heap.size, 0, none⟩ = some (.int .u64 ix) ∧ X.cell? ⟨w.heap.size, 1, none⟩ = some (.int .u64 tm) ∧ X.cell? ⟨w.heap.size, 2, none⟩ = some (.slice da dn dc) ∧ X.cell? ⟨w.heap.size, 3, none⟩ = some (.slice ma mn mc) ∧ X.cell? ⟨w.heap.size, 4, none⟩ = some (.pointer rp)) → (Below w.heap.size w (((((((X.setCell ⟨w.heap.size + 1, 0, none⟩ v0).setCell ⟨w.heap.size + 1, 1, none⟩ v1).setCell ⟨w.heap.size + 1, 2, none⟩ v2).setCell ⟨w.heap.size + 1, 3, none⟩ v3).setCell ⟨w.heap.size + 1, 4, none⟩ v4).setCell ⟨w.heap.size + 1, 5, none⟩ v5).setCell ⟨w.heap.size + 1, 6, none⟩ v6) ∧ (∃ f, (((((((X.setCell ⟨w.heap.size + 1, 0, none⟩ v0).setCell ⟨w.heap.size + 1, 1, none⟩ v1).setCell ⟨w.heap.size + 1, 2, none⟩ v2).setCell ⟨w.heap.size + 1, 3, none⟩ v3).setCell ⟨w.heap.size + 1, 4, none⟩ v4).setCell ⟨w.heap.size + 1, 5, none⟩ v5).setCell ⟨w.heap.size + 1, 6, none⟩ v6).rowIs (w.heap.size + 1) 53 7 f) ∧ (((((((X.setCell ⟨w.heap.size + 1, 0, none⟩ v0).setCell ⟨w.heap.size + 1, 1, none⟩ v1).setCell ⟨w.heap.size + 1, 2, none⟩ v2).setCell ⟨w.heap.size + 1, 3, none⟩ v3).setCell ⟨w.heap.size + 1, 4, none⟩ v4).setCell ⟨w.heap.size + 1, 5, none⟩ v5).setCell ⟨w.heap.size + 1, 6, none⟩ v6).cell? ⟨w.heap.size, 0, none⟩ = some (.int .u64 ix) ∧ (((((((X.setCell ⟨w.heap.size + 1, 0, none⟩ v0).setCell ⟨w.heap.size + 1, 1, none⟩ v1).setCell ⟨w.heap.size + 1, 2, none⟩ v2).setCell ⟨w.heap.size + 1, 3, none⟩ v3).setCell ⟨w.heap.size + 1, 4, none⟩ v4).setCell ⟨w.heap.size + 1, 5, none⟩ v5).setCell ⟨w.heap.size + 1, 6, none⟩ v6).cell? ⟨w.heap.size, 1, none⟩ = some (.int .u64 tm) ∧ (((((((X.setCell ⟨w.heap.size + 1, 0, none⟩ v0).setCell ⟨w.heap.size + 1, 1, none⟩ v1).setCell ⟨w.heap.size + 1, 2, none⟩ v2).setCell ⟨w.heap.size + 1, 3, none⟩ v3).setCell ⟨w.heap.size + 1, 4, none⟩ v4).setCell ⟨w.heap.size + 1, 5, none⟩ v5).setCell ⟨w.heap.size + 1, 6, none⟩ v6).cell? ⟨w.heap.size, 2, none⟩ = some (.slice da dn dc) ∧ (((((((X.setCell ⟨w.heap.size + 1, 0, none⟩ v0).setCell ⟨w.heap.size + 1, 1, none⟩ v1).setCell ⟨w.heap.size + 1, 2, none⟩ v2).setCell ⟨w.heap.size + 1, 3, none⟩ v3).setCell ⟨w.heap.size + 1, 4, none⟩ v4).setCell ⟨w.heap.size + 1, 5, none⟩ v5).setCell ⟨w.heap.size + 1, 6, none⟩ v6).cell? ⟨w.heap.size, 3, none⟩ = some (.slice ma mn mc) ∧ (((((((X.setCell ⟨w.heap.size + 1, 0, none⟩ v0).setCell ⟨w.heap.size + 1, 1, none⟩ v1).setCell ⟨w.heap.size + 1, 2, none⟩ v2).setCell ⟨w.heap.size + 1, 3, none⟩ v3).setCell ⟨w.heap.size + 1, 4, none⟩ v4).setCell ⟨w.heap.size + 1, 5, none⟩ v5).setCell ⟨w.heap.size + 1, 6, none⟩ v6).cell? ⟨w.heap.size, 4, none⟩ = some (.pointer rp))) := by
    rintro X v0 v1 v2 v3 v4 v5 v6 ⟨s0, s1, s2, s3, s4, s5, s6⟩
    refine ⟨((((((s0.setCell (by simp) _).setCell (by simp) _).setCell (by simp) _).setCell (by simp) _).setCell (by simp) _).setCell (by simp) _).setCell (by simp) _, ?_, ?_, ?_, ?_, ?_, ?_⟩
    · obtain ⟨f, h⟩ := s1
      exact ⟨_, ((((((h.set _ _).set _ _).set _ _).set _ _).set _ _).set _ _).set _ _⟩
    all_goals (repeat (refine cell_far ?_ (by omega))); assumption
  go_region_held3 (fun w' => Below w.heap.size w w' ∧ (∃ f, w'.rowIs (w.heap.size + 1) 53 7 f) ∧ w'.cell? ⟨w.heap.size, 0, none⟩ = some (.int .u64 ix) ∧ w'.cell? ⟨w.heap.size, 1, none⟩ = some (.int .u64 tm) ∧ w'.cell? ⟨w.heap.size, 2, none⟩ = some (.slice da dn dc) ∧ w'.cell? ⟨w.heap.size, 3, none⟩ = some (.slice ma mn mc) ∧ w'.cell? ⟨w.heap.size, 4, none⟩ = some (.pointer rp))
    (first | (with_reducible assumption) | (with_reducible exact HS0.out) | (with_reducible exact HK2.out _ _ _ _ _ _ _ _ (by with_reducible assumption)) | (with_reducible exact HK.out _ _ (by with_reducible assumption) (by with_reducible assumption)))
    (first
      | (go_at_call 26; refine Calls.mono (zbytes_any _ _ _ bs _ hdn (by exact Bytes.later HD.out (‹Below w.heap.size w _ ∧ _›).1)) ?_; rintro e w1 ⟨hB1, v1, rfl, hc1⟩; obtain ⟨x1, y1, z1, rfl⟩ := hc1.shape)
      | (go_at_call 32; refine Calls.mono (snapbytes_any _ _ _ _) ?_; rintro e w2 ⟨rfl, hB2⟩)
      | (go_at_call 27; refine Calls.mono (zmembers_any _ _ _ ms _ hmn (by exact Mems.later HM.out (‹Below w.heap.size w _ ∧ _›).1)) ?_; rintro e w3 ⟨hB3, v3, rfl, hc3⟩; obtain ⟨x3, y3, z3, rfl⟩ := hc3.shape)
      | (go_at_call 28; have hSold := ‹Below w.heap.size w _ ∧ _›; refine Calls.mono (zremoved_any _ rm _ (by exact MemPtr.later HR.out hSold.1)) ?_; rintro e w4 ⟨hB4, v4, rfl, hc4⟩; obtain ⟨x4, rfl⟩ := hc4.shape; obtain ⟨f4, hf4⟩ := (HK.out _ _ hSold hB4).2.1;
          have r0 := hf4.cell (i := 0) (by omega); have r1 := hf4.cell (i := 1) (by omega); have r2 := hf4.cell (i := 2) (by omega); have r3 := hf4.cell (i := 3) (by omega); have r4 := hf4.cell (i := 4) (by omega); have r5 := hf4.cell (i := 5) (by omega); have r6 := hf4.cell (i := 6) (by omega);
          have q0 := hf4.frozen 0; have q1 := hf4.frozen 1; have q2 := hf4.frozen 2; have q3 := hf4.frozen 3; have q4 := hf4.frozen 4; have q5 := hf4.frozen 5; have q6 := hf4.frozen 6))
  go_wp2
  have hfin := ‹Below w.heap.size w _ ∧ _›
  refine bodyPost_ret (v := .agg #[.int .u64 ix, .int .u64 tm, .slice x1 y1 z1, .nilFunc, .int .i64 0, .slice x3 y3 z3, .pointer x4]) (by simp [results, Try.results17, go_sem, r0, r1, r2, r3, r4, r5, r6]) rfl ⟨hfin.1, _, _, _, rfl, ?_⟩
  exact snap_end (W := W.drew) (show W.drew.heap.size = _ from HZ.out) hB1 hc1 hB2 hB3 hc3 hB4 hc4 _ _ _ _ _ _ _

end Go.Proofs.Qxb6605768a

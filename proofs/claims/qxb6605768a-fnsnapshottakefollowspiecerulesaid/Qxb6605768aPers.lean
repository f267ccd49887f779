/-
  Seat b6605768a. zPersistent (9).
-/
import Derived.Test.Qxb6605768aEntries
namespace Go.Proofs.Qxb6605768a
open Go.RowKit
set_option linter.unusedVariables false

theorem below_alloc (X : World) (o : Obj) : Below X.heap.size X (X.alloc o) := (Below.refl _ _).alloc (Nat.le_refl _) _

/-- A Persistent, by the fields that UpToDate reads. -/
def PersAt (w : World) (b : Nat) (ix tm : Int) (ln : Nat) (es : Nat → Ent) : Prop :=
  w.cell? ⟨b, 4, none⟩ = some (.int .u64 ix) ∧ w.cell? ⟨b, 5, none⟩ = some (.int .u64 tm) ∧ ∃ x z, w.cell? ⟨b, 2, none⟩ = some (.slice x ln z) ∧ (0 < ln → z = ln ∧ ∃ lb, x = some ⟨lb, 0, none⟩ ∧ Old93 w lb ln es ln)
theorem PersAt.later {w w' : World} {b : Nat} {ix tm : Int} {ln : Nat} {es : Nat → Ent} (h : PersAt w b ix tm ln es) (hb : Below w.heap.size w w') : PersAt w' b ix tm ln es := by
  obtain ⟨h1, h2, x, z, h3, h4⟩ := h
  exact ⟨keepc h1 hb, keepc h2 hb, x, z, keepc h3 hb, fun h0 => by obtain ⟨e, lb, h5, h6⟩ := h4 h0; exact ⟨e, lb, h5, h6.later hb⟩⟩
theorem CopyE.log {a : Option Addr} {n : Nat} {es : Nat → Ent} {B : Nat} {x : Option Addr} {y z : Nat} {w : World} (h : CopyE a n es B (.slice x y z) w) (h0 : a = none → n = 0) : y = n ∧ (0 < n → z = n ∧ ∃ lb, x = some ⟨lb, 0, none⟩ ∧ Old93 w lb n es n) := by
  rcases h with ⟨ha, h⟩ | ⟨_, b, _, h, ho⟩
  · cases h; have := h0 ha; exact ⟨by omega, fun h => absurd h (by omega)⟩
  · cases h; exact ⟨rfl, fun _ => ⟨rfl, b, rfl, ho⟩⟩

def PersEnd (ix tm : Int) (ln : Nat) (es : Nat → Ent) (w : World) (e : Ending) (w' : World) : Prop :=
  Below w.heap.size w w' ∧ ∃ b, e = .returned (.pointer (some ⟨b, 0, none⟩)) ∧ PersAt w' b ix tm ln es

set_option maxRecDepth 100000 in
set_option maxHeartbeats 4000000 in
theorem zpersistent_any (t vf : Int) (la : Option Addr) (ln lc : Nat) (es : Nat → Ent) (cm ix tm : Int) (da : Option Addr) (dn dc : Nat) (bs : Nat → Int) (ma : Option Addr) (mn mc : Nat) (ms : Nat → Mem) (rp : Option Addr) (rm : Mem) (inc cid fo : Int) (w : World)
    (he : Ents w la ln es) (hln : ln ≤ 1048576) (hes : ∀ j, j < ln → (es j).mn ≤ 1048576) (hd : Bytes w da dn bs) (hdn : dn ≤ 1048576) (hm : Mems w ma mn ms) (hmn : mn ≤ 1048576) (hr : MemPtr w rp rm) :
    Calls Try.prog 9 #[.agg (pers t vf la ln lc cm ix tm da dn dc ma mn mc rp inc cid fo)] w (PersEnd ix tm ln es w) := by
  go_enter Try.func9, Try.ntmps9
  go_wp2
  have HE : Hid _ := he
  have HES : Hid _ := hes
  have HD : Hid _ := hd
  have HM : Hid _ := hm
  have HR : Hid _ := hr
  clear he hes hd hm hr
  obtain ⟨W, hW⟩ : ∃ W, w.alloc (.cells (pers t vf la ln lc cm ix tm da dn dc ma mn mc rp inc cid fo) 32) = W := ⟨_, rfl⟩
  have HS0 : Hid (Below w.heap.size w W.drew ∧ W.drew.cell? ⟨w.heap.size, 0, none⟩ = some (.int .u64 t) ∧ W.drew.cell? ⟨w.heap.size, 1, none⟩ = some (.int .i64 vf) ∧ W.drew.cell? ⟨w.heap.size, 2, none⟩ = some (.slice la ln lc) ∧ W.drew.cell? ⟨w.heap.size, 3, none⟩ = some (.int .u64 cm) ∧ W.drew.cell? ⟨w.heap.size, 4, none⟩ = some (.int .u64 ix) ∧ W.drew.cell? ⟨w.heap.size, 5, none⟩ = some (.int .u64 tm) ∧ W.drew.cell? ⟨w.heap.size, 6, none⟩ = some (.slice da dn dc) ∧ W.drew.cell? ⟨w.heap.size, 7, none⟩ = some (.slice ma mn mc) ∧ W.drew.cell? ⟨w.heap.size, 8, none⟩ = some (.pointer rp) ∧ W.drew.cell? ⟨w.heap.size, 9, none⟩ = some (.int .u64 inc) ∧ W.drew.cell? ⟨w.heap.size, 10, none⟩ = some (.int .u64 cid) ∧ W.drew.cell? ⟨w.heap.size, 11, none⟩ = some (.int .u64 fo)) := by
    rw [← hW]
    exact ⟨((Below.refl _ _).alloc (Nat.le_refl _) _).drew, by simp, by simp, by simp, by simp, by simp, by simp, by simp, by simp, by simp, by simp, by simp, by simp⟩
  rw [hW]
  clear hW
  have HK : Hid (∀ X Y : World, (Below w.heap.size w X ∧ X.cell? ⟨w.heap.size, 0, none⟩ = some (.int .u64 t) ∧ X.cell? ⟨w.heap.size, 1, none⟩ = some (.int .i64 vf) ∧ X.cell? ⟨w.heap.size, 2, none⟩ = some (.slice la ln lc) ∧ X.cell? ⟨w.heap.size, 3, none⟩ = some (.int .u64 cm) ∧ X.cell? ⟨w.heap.size, 4, none⟩ = some (.int .u64 ix) ∧ X.cell? ⟨w.heap.size, 5, none⟩ = some (.int .u64 tm) ∧ X.cell? ⟨w.heap.size, 6, none⟩ = some (.slice da dn dc) ∧ X.cell? ⟨w.heap.size, 7, none⟩ = some (.slice ma mn mc) ∧ X.cell? ⟨w.heap.size, 8, none⟩ = some (.pointer rp) ∧ X.cell? ⟨w.heap.size, 9, none⟩ = some (.int .u64 inc) ∧ X.cell? ⟨w.heap.size, 10, none⟩ = some (.int .u64 cid) ∧ X.cell? ⟨w.heap.size, 11, none⟩ = some (.int .u64 fo)) → Below X.heap.size X Y → (Below w.heap.size w Y ∧ Y.cell? ⟨w.heap.size, 0, none⟩ = some (.int .u64 t) ∧ Y.cell? ⟨w.heap.size, 1, none⟩ = some (.int .i64 vf) ∧ Y.cell? ⟨w.heap.size, 2, none⟩ = some (.slice la ln lc) ∧ Y.cell? ⟨w.heap.size, 3, none⟩ = some (.int .u64 cm) ∧ Y.cell? ⟨w.heap.size, 4, none⟩ = some (.int .u64 ix) ∧ Y.cell? ⟨w.heap.size, 5, none⟩ = some (.int .u64 tm) ∧ Y.cell? ⟨w.heap.size, 6, none⟩ = some (.slice da dn dc) ∧ Y.cell? ⟨w.heap.size, 7, none⟩ = some (.slice ma mn mc) ∧ Y.cell? ⟨w.heap.size, 8, none⟩ = some (.pointer rp) ∧ Y.cell? ⟨w.heap.size, 9, none⟩ = some (.int .u64 inc) ∧ Y.cell? ⟨w.heap.size, 10, none⟩ = some (.int .u64 cid) ∧ Y.cell? ⟨w.heap.size, 11, none⟩ = some (.int .u64 fo))) := by
    rintro X Y ⟨s0, s1, s2, s3, s4, s5, s6, s7, s8, s9, s10, s11, s12⟩ hXY
    exact ⟨s0.trans (hXY.mono s0.size), keepc s1 hXY, keepc s2 hXY, keepc s3 hXY, keepc s4 hXY, keepc s5 hXY, keepc s6 hXY, keepc s7 hXY, keepc s8 hXY, keepc s9 hXY, keepc s10 hXY, keepc s11 hXY, keepc s12 hXY⟩
  go_region_held3 (fun w' => (Below w.heap.size w w' ∧ w'.cell? ⟨w.heap.size, 0, none⟩ = some (.int .u64 t) ∧ w'.cell? ⟨w.heap.size, 1, none⟩ = some (.int .i64 vf) ∧ w'.cell? ⟨w.heap.size, 2, none⟩ = some (.slice la ln lc) ∧ w'.cell? ⟨w.heap.size, 3, none⟩ = some (.int .u64 cm) ∧ w'.cell? ⟨w.heap.size, 4, none⟩ = some (.int .u64 ix) ∧ w'.cell? ⟨w.heap.size, 5, none⟩ = some (.int .u64 tm) ∧ w'.cell? ⟨w.heap.size, 6, none⟩ = some (.slice da dn dc) ∧ w'.cell? ⟨w.heap.size, 7, none⟩ = some (.slice ma mn mc) ∧ w'.cell? ⟨w.heap.size, 8, none⟩ = some (.pointer rp) ∧ w'.cell? ⟨w.heap.size, 9, none⟩ = some (.int .u64 inc) ∧ w'.cell? ⟨w.heap.size, 10, none⟩ = some (.int .u64 cid) ∧ w'.cell? ⟨w.heap.size, 11, none⟩ = some (.int .u64 fo)))
    (first | (with_reducible assumption) | (with_reducible exact HS0.out) | (with_reducible exact HK.out _ _ (by with_reducible assumption) (by with_reducible assumption)) | (with_reducible exact HK.out _ _ (by with_reducible assumption) (below_alloc _ _)))
    (first
      | (go_at_call 30; refine Calls.mono (zentries_any _ _ _ es _ hln HES.out (by exact Ents.later HE.out (‹Below w.heap.size w _ ∧ _›).1)) ?_; rintro e w1 ⟨hB1, v1, rfl, hc1⟩; obtain ⟨x1, y1, z1, rfl⟩ := hc1.shape)
      | (go_at_call 17; refine Calls.mono (zsnapshot_any _ _ _ _ _ bs _ _ _ ms _ rm _ (by exact Bytes.later HD.out (‹Below w.heap.size w _ ∧ _›).1) hdn (by exact Mems.later HM.out (‹Below w.heap.size w _ ∧ _›).1) hmn (by exact MemPtr.later HR.out (‹Below w.heap.size w _ ∧ _›).1)) ?_; rintro e w2 ⟨hB2, vd, vm, vr, rfl, hcd, hcm, hcr⟩; obtain ⟨xd, yd, zd, rfl⟩ := hcd.shape; obtain ⟨xm, ym, zm, rfl⟩ := hcm.shape; obtain ⟨xr, rfl⟩ := hcr.shape))
  go_wp2
  have hfin := ‹Below w.heap.size w _ ∧ _›
  go_ret
  obtain ⟨rfl, hlog⟩ := ((hc1.later hB2).later (below_alloc _ _)).log HE.out.2.1
  exact ⟨hfin.1, _, rfl, by simp, by simp, _, _, by simp, hlog⟩

end Go.Proofs.Qxb6605768a

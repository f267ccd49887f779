/-
  Seat b6605768a. The bounds on lengths of the two laws on UpToDate (7, 12).
-/
import Derived.Test.Qxb6605768aEnts
namespace Go.Proofs.Qxb6605768a
open Go.RowKit
set_option linter.unusedVariables false

/-- The entries before k have few members. -/
def Small (es : Nat → Ent) (k : Nat) : Prop := ∀ j, j < k → (es j).mn ≤ 1048576
theorem Small.next {es : Nat → Ent} {k : Nat} (h : Small es k) (hk : (es k).mn ≤ 1048576) : Small es (k + 1) := fun j hj => by
  by_cases e : j = k
  · rw [e]; exact hk
  · exact h j (by omega)
/-- It has returned a bool; if true, the lengths are small. -/
def BPEnd (ln : Nat) (es : Nat → Ent) (dn mn : Nat) (w : World) (e : Ending) (w' : World) : Prop :=
  Below w.heap.size w w' ∧ ∃ b, e = .returned (.bool b) ∧ (b = true → ln ≤ 1048576 ∧ Small es ln ∧ dn ≤ 1048576 ∧ mn ≤ 1048576)
theorem bp_no {ln : Nat} {es : Nat → Ent} {dn mn : Nat} {w w' : World} (h : Below w.heap.size w w') : BPEnd ln es dn mn w (.returned (.bool false)) w' := ⟨h, false, rfl, fun h => by cases h⟩
theorem bp_yes {ln : Nat} {es : Nat → Ent} {dn mn : Nat} {w w' : World} (h : Below w.heap.size w w') (hn : ln ≤ 1048576 ∧ Small es ln ∧ dn ≤ 1048576 ∧ mn ≤ 1048576) : BPEnd ln es dn mn w (.returned (.bool true)) w' := ⟨h, true, rfl, fun _ => hn⟩

set_option maxRecDepth 100000 in
set_option maxHeartbeats 8000000 in
theorem bytes3_any (t vf : Int) (la : Option Addr) (ln lc : Nat) (es : Nat → Ent) (cm ix tm : Int) (da : Option Addr) (dn dc : Nat) (ma : Option Addr) (mn mc : Nat) (ms : Nat → Mem) (rp : Option Addr) (rm : Mem) (inc cid fo y1 y2 : Int) (w : World)
    (he : Ents w la ln es) (hd : dn ≤ 9223372036854775807) (hm : Mems w ma mn ms) (hr : MemPtr w rp rm) :
    Calls Try.prog 7 #[.agg (pers t vf la ln lc cm ix tm da dn dc ma mn mc rp inc cid fo), .int .u64 y1, .int .u64 y2] w (BPEnd ln es dn mn w) := by
  obtain ⟨W, hW⟩ : ∃ W, w.alloc (.cells (pers t vf la ln lc cm ix tm da dn dc ma mn mc rp inc cid fo) 32) = W := ⟨_, rfl⟩
  have hB : Below w.heap.size w W := by rw [← hW]; exact (Below.refl _ _).alloc (Nat.le_refl _) _
  have f2 : W.cell? ⟨w.heap.size, 2, none⟩ = some (.slice la ln lc) := by rw [← hW]; simp
  have f6 : W.cell? ⟨w.heap.size, 6, none⟩ = some (.slice da dn dc) := by rw [← hW]; simp
  have f7 : W.cell? ⟨w.heap.size, 7, none⟩ = some (.slice ma mn mc) := by rw [← hW]; simp
  have f8 : W.cell? ⟨w.heap.size, 8, none⟩ = some (.pointer rp) := by rw [← hW]; simp
  obtain ⟨hnE, _, hcE⟩ := he.later hB
  obtain ⟨hn, _, hc⟩ := hm.later hB
  have HC : Hid _ := hc
  have HCE : Hid _ := hcE
  have HPR : Hid (MemPtr W rp rm) := hr.later hB
  have HW : Hid _ := hW
  have HB : Hid _ := hB
  clear hc hcE he hm hr hW hB
  go_enter Try.func7, Try.ntmps7
  go_wp2
  all_goals (try (go_ret; rw [HW.out]; exact bp_no HB.out))
  rw [HW.out]
  go_loop [7, 8] (fun z i => ∃ (k : Nat) (q : Int), k ≤ ln ∧ i = .int .i64 k ∧ z = .int .i64 q ∧ Small es k) (fun _ i => ln - (intOf i).toNat)
  case atStart => exact ⟨0, _, Nat.zero_le _, rfl, rfl, fun j hj => absurd hj (by omega)⟩
  case round =>
    obtain ⟨k, q, hk, rfl, rfl, hsm⟩ := hrel
    have HSM : Hid (Small es k) := hsm
    clear hsm
    by_cases hlt : k < ln
    · obtain ⟨b, o, rfl, hc⟩ := HCE.out (by omega)
      obtain ⟨_, c2, _, c4, s1, hmk⟩ := hc k hlt
      obtain ⟨hnk, _, hck⟩ := hmk
      have HCK : Hid _ := hck
      clear hc hck
      go_wp2
      all_goals (try (go_ret; exact bp_no HB.out))
      go_loop [7, 9] (fun z i => ∃ (k3 : Nat) (q : Int), k3 ≤ (es k).mn ∧ i = .int .i64 k3 ∧ z = .int .i64 q) (fun _ i => (es k).mn - (intOf i).toNat)
      case atStart => exact ⟨0, _, Nat.zero_le _, rfl, rfl⟩
      case round =>
        obtain ⟨k3, q3, hk3, rfl, rfl⟩ := hrel
        by_cases hlt3 : k3 < (es k).mn
        · obtain ⟨b3, o3, hx, hc3⟩ := HCK.out (by omega)
          obtain ⟨_, d2, d3, _, _, t1, t2⟩ := hc3 k3 hlt3
          rw [hx] at c4
          clear hc3 hx
          go_wp2
          all_goals (try (go_ret; exact bp_no HB.out))
          go_round
          case rel => exact ⟨k3 + 1, _, by omega, by go_num, rfl⟩
          case measure => simp [intOf]; omega
        · go_wp2
          go_round
          case rel => exact ⟨k + 1, _, by omega, by go_num, rfl, Small.next HSM.out (by omega)⟩
          case measure => simp [intOf]; omega
    · obtain rfl : k = ln := by omega
      go_wp2
      all_goals (try (go_ret; exact bp_no HB.out))
      go_loop [7, 10] (fun z i => ∃ (k2 : Nat) (q : Int), k2 ≤ mn ∧ i = .int .i64 k2 ∧ z = .int .i64 q) (fun _ i => mn - (intOf i).toNat)
      case atStart => exact ⟨0, _, Nat.zero_le _, rfl, rfl⟩
      case round =>
        obtain ⟨k2, q2, hk2, rfl, rfl⟩ := hrel
        by_cases hlt2 : k2 < mn
        · obtain ⟨b2, o2, rfl, hc2⟩ := HC.out (by omega)
          obtain ⟨_, d2, d3, _, _, t1, t2⟩ := hc2 k2 hlt2
          clear hc2
          go_wp2
          all_goals (try (go_ret; exact bp_no HB.out))
          go_round
          case rel => exact ⟨k2 + 1, _, by omega, by go_num, rfl⟩
          case measure => simp [intOf]; omega
        · rcases HPR.out with rfl | ⟨rb, ro, rfl, _, r1, r2, _, _, rs1, rs2⟩
          all_goals
            go_wp2
            all_goals (try (go_ret; exact bp_no HB.out))
            all_goals (go_ret; exact bp_yes HB.out ⟨by omega, HSM.out, by omega, by omega⟩)

set_option maxRecDepth 100000 in
set_option maxHeartbeats 8000000 in
theorem bytes4_any (t vf : Int) (la : Option Addr) (ln lc : Nat) (es : Nat → Ent) (cm ix tm : Int) (da : Option Addr) (dn dc : Nat) (ma : Option Addr) (mn mc : Nat) (ms : Nat → Mem) (rp : Option Addr) (rm : Mem) (inc cid fo y1 y2 y3 y4 : Int) (w : World)
    (he : Ents w la ln es) (hd : dn ≤ 9223372036854775807) (hm : Mems w ma mn ms) (hr : MemPtr w rp rm) :
    Calls Try.prog 12 #[.agg (pers t vf la ln lc cm ix tm da dn dc ma mn mc rp inc cid fo), .int .u64 y1, .int .u64 y2, .int .u64 y3, .int .u64 y4] w (BPEnd ln es dn mn w) := by
  obtain ⟨W, hW⟩ : ∃ W, w.alloc (.cells (pers t vf la ln lc cm ix tm da dn dc ma mn mc rp inc cid fo) 32) = W := ⟨_, rfl⟩
  have hB : Below w.heap.size w W := by rw [← hW]; exact (Below.refl _ _).alloc (Nat.le_refl _) _
  have f2 : W.cell? ⟨w.heap.size, 2, none⟩ = some (.slice la ln lc) := by rw [← hW]; simp
  have f6 : W.cell? ⟨w.heap.size, 6, none⟩ = some (.slice da dn dc) := by rw [← hW]; simp
  have f7 : W.cell? ⟨w.heap.size, 7, none⟩ = some (.slice ma mn mc) := by rw [← hW]; simp
  have f8 : W.cell? ⟨w.heap.size, 8, none⟩ = some (.pointer rp) := by rw [← hW]; simp
  obtain ⟨hnE, _, hcE⟩ := he.later hB
  obtain ⟨hn, _, hc⟩ := hm.later hB
  have HC : Hid _ := hc
  have HCE : Hid _ := hcE
  have HPR : Hid (MemPtr W rp rm) := hr.later hB
  have HW : Hid _ := hW
  have HB : Hid _ := hB
  clear hc hcE he hm hr hW hB
  go_enter Try.func12, Try.ntmps12
  go_wp2
  all_goals (try (go_ret; rw [HW.out]; exact bp_no HB.out))
  rw [HW.out]
  go_loop [11, 12] (fun z i => ∃ (k : Nat) (q : Int), k ≤ ln ∧ i = .int .i64 k ∧ z = .int .i64 q ∧ Small es k) (fun _ i => ln - (intOf i).toNat)
  case atStart => exact ⟨0, _, Nat.zero_le _, rfl, rfl, fun j hj => absurd hj (by omega)⟩
  case round =>
    obtain ⟨k, q, hk, rfl, rfl, hsm⟩ := hrel
    have HSM : Hid (Small es k) := hsm
    clear hsm
    by_cases hlt : k < ln
    · obtain ⟨b, o, rfl, hc⟩ := HCE.out (by omega)
      obtain ⟨_, c2, _, c4, s1, hmk⟩ := hc k hlt
      obtain ⟨hnk, _, hck⟩ := hmk
      have HCK : Hid _ := hck
      clear hc hck
      go_wp2
      all_goals (try (go_ret; exact bp_no HB.out))
      go_loop [11, 13] (fun z i => ∃ (k3 : Nat) (q : Int), k3 ≤ (es k).mn ∧ i = .int .i64 k3 ∧ z = .int .i64 q) (fun _ i => (es k).mn - (intOf i).toNat)
      case atStart => exact ⟨0, _, Nat.zero_le _, rfl, rfl⟩
      case round =>
        obtain ⟨k3, q3, hk3, rfl, rfl⟩ := hrel
        by_cases hlt3 : k3 < (es k).mn
        · obtain ⟨b3, o3, hx, hc3⟩ := HCK.out (by omega)
          obtain ⟨_, d2, d3, _, _, t1, t2⟩ := hc3 k3 hlt3
          rw [hx] at c4
          clear hc3 hx
          go_wp2
          all_goals (try (go_ret; exact bp_no HB.out))
          go_round
          case rel => exact ⟨k3 + 1, _, by omega, by go_num, rfl⟩
          case measure => simp [intOf]; omega
        · go_wp2
          go_round
          case rel => exact ⟨k + 1, _, by omega, by go_num, rfl, Small.next HSM.out (by omega)⟩
          case measure => simp [intOf]; omega
    · obtain rfl : k = ln := by omega
      go_wp2
      all_goals (try (go_ret; exact bp_no HB.out))
      go_loop [11, 14] (fun z i => ∃ (k2 : Nat) (q : Int), k2 ≤ mn ∧ i = .int .i64 k2 ∧ z = .int .i64 q) (fun _ i => mn - (intOf i).toNat)
      case atStart => exact ⟨0, _, Nat.zero_le _, rfl, rfl⟩
      case round =>
        obtain ⟨k2, q2, hk2, rfl, rfl⟩ := hrel
        by_cases hlt2 : k2 < mn
        · obtain ⟨b2, o2, rfl, hc2⟩ := HC.out (by omega)
          obtain ⟨_, d2, d3, _, _, t1, t2⟩ := hc2 k2 hlt2
          clear hc2
          go_wp2
          all_goals (try (go_ret; exact bp_no HB.out))
          go_round
          case rel => exact ⟨k2 + 1, _, by omega, by go_num, rfl⟩
          case measure => simp [intOf]; omega
        · rcases HPR.out with rfl | ⟨rb, ro, rfl, _, r1, r2, _, _, rs1, rs2⟩
          all_goals
            go_wp2
            all_goals (try (go_ret; exact bp_no HB.out))
            all_goals (go_ret; exact bp_yes HB.out ⟨by omega, HSM.out, by omega, by omega⟩)

end Go.Proofs.Qxb6605768a

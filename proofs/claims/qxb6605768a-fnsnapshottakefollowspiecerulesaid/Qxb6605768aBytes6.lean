/-
  Seat b6605768a. The bound on lengths of the law on pieces (23).
-/
import Derived.Test.Qxb6605768aSizes
namespace Go.Proofs.Qxb6605768a
open Go.RowKit
set_option linter.unusedVariables false

/-- It has returned a bool; if true, the lengths are small. -/
def B6End (n1 n2 n3 n4 : Nat) (w : World) (e : Ending) (w' : World) : Prop :=
  Below w.heap.size w w' ∧ ∃ b, e = .returned (.bool b) ∧ (b = true → n1 ≤ 1048576 ∧ n2 ≤ 1048576 ∧ n3 ≤ 1048576 ∧ n4 ≤ 1048576)

theorem b6_no {n1 n2 n3 n4 : Nat} {w w' : World} (h : Below w.heap.size w w') : B6End n1 n2 n3 n4 w (.returned (.bool false)) w' := ⟨h, false, rfl, fun h => by cases h⟩
theorem b6_yes {n1 n2 n3 n4 : Nat} {w w' : World} (h : Below w.heap.size w w') (hn : n1 ≤ 1048576 ∧ n2 ≤ 1048576 ∧ n3 ≤ 1048576 ∧ n4 ≤ 1048576) : B6End n1 n2 n3 n4 w (.returned (.bool true)) w' := ⟨h, true, rfl, fun _ => hn⟩

set_option maxRecDepth 100000 in
set_option maxHeartbeats 4000000 in
theorem bytes6_any (ix tm : Int) (da : Option Addr) (dn dc : Nat) (ma : Option Addr) (mn mc : Nat) (ms : Nat → Mem) (rp : Option Addr) (rm : Mem)
    (x1 x2 x4 : Int) (da2 : Option Addr) (dn2 dc2 : Nat) (ma2 : Option Addr) (mn2 mc2 : Nat) (ms2 : Nat → Mem) (rp2 : Option Addr) (rm2 : Mem) (w : World)
    (hd : dn ≤ 9223372036854775807) (hm : Mems w ma mn ms) (hr : MemPtr w rp rm) (hd2 : dn2 ≤ 9223372036854775807) (hm2 : Mems w ma2 mn2 ms2) (hr2 : MemPtr w rp2 rm2) :
    Calls Try.prog 23 #[.agg #[.int .u64 ix, .int .u64 tm, .slice da dn dc, .slice ma mn mc, .pointer rp], .int .u64 x1, .int .u64 x2, .slice da2 dn2 dc2, .int .u64 x4, .slice ma2 mn2 mc2, .pointer rp2] w (B6End dn mn dn2 mn2 w) := by
  obtain ⟨W, hW⟩ : ∃ W, w.alloc (.cells #[.int .u64 ix, .int .u64 tm, .slice da dn dc, .slice ma mn mc, .pointer rp] 28) = W := ⟨_, rfl⟩
  have hB : Below w.heap.size w W := by rw [← hW]; exact (Below.refl _ _).alloc (Nat.le_refl _) _
  have f2 : W.cell? ⟨w.heap.size, 2, none⟩ = some (.slice da dn dc) := by rw [← hW]; simp
  have f3 : W.cell? ⟨w.heap.size, 3, none⟩ = some (.slice ma mn mc) := by rw [← hW]; simp
  have f4 : W.cell? ⟨w.heap.size, 4, none⟩ = some (.pointer rp) := by rw [← hW]; simp
  obtain ⟨hn, _, hc⟩ := hm.later hB
  obtain ⟨hn2, _, hc2⟩ := hm2.later hB
  have HC : Hid _ := hc
  have HC2 : Hid _ := hc2
  have HP := hr.later hB
  have HP2 := hr2.later hB
  have HW : Hid _ := hW
  have HB : Hid _ := hB
  clear hc hc2 hm hm2 hr hr2 hW hB
  rcases HP with rfl | ⟨rb, ro, rfl, _, r1, r2, _, _, rs1, rs2⟩
  all_goals rcases HP2 with rfl | ⟨rb2, ro2, rfl, _, q1, q2, _, _, qs1, qs2⟩
  all_goals
    go_enter Try.func23, Try.ntmps23
    go_wp2
    iterate 3 (go_ret; rw [HW.out]; exact b6_no HB.out)
    rw [HW.out]
    go_loop [15, 16] (fun z i => ∃ (k : Nat) (q : Int), k ≤ mn ∧ i = .int .i64 k ∧ z = .int .i64 q) (fun _ i => mn - (intOf i).toNat)
    case atStart => exact ⟨0, _, Nat.zero_le _, rfl, rfl⟩
    case round =>
      obtain ⟨k, q, hk, rfl, rfl⟩ := hrel
      by_cases hlt : k < mn
      · obtain ⟨b, o, rfl, hc⟩ := HC.out (by omega)
        obtain ⟨_, c2, c3, _, _, s1, s2⟩ := hc k hlt
        clear hc
        go_wp2
        iterate 4 (go_ret; exact b6_no HB.out)
        go_round
        case rel => exact ⟨k + 1, _, by omega, by go_num, rfl⟩
        case measure => simp [intOf]; omega
      · go_wp2
        all_goals (try (go_ret; exact b6_no HB.out))
        go_loop [15, 17] (fun z i => ∃ (k : Nat) (q : Int), k ≤ mn2 ∧ i = .int .i64 k ∧ z = .int .i64 q) (fun _ i => mn2 - (intOf i).toNat)
        case atStart => exact ⟨0, _, Nat.zero_le _, rfl, rfl⟩
        case round =>
          obtain ⟨k2, q2, hk2, rfl, rfl⟩ := hrel
          by_cases hlt2 : k2 < mn2
          · obtain ⟨b, o, rfl, hc⟩ := HC2.out (by omega)
            obtain ⟨_, c2, c3, _, _, s1, s2⟩ := hc k2 hlt2
            clear hc
            go_wp2
            iterate 4 (go_ret; exact b6_no HB.out)
            go_round
            case rel => exact ⟨k2 + 1, _, by omega, by go_num, rfl⟩
            case measure => simp [intOf]; omega
          · go_wp2
            all_goals (try (go_ret; exact b6_no HB.out))
            all_goals (go_ret; exact b6_yes HB.out (by omega))

end Go.Proofs.Qxb6605768a

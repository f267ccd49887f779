/-
  Seat b6605768a. The bound on lengths of the law on one piece (13).
-/
import Derived.Test.Qxb6605768aZMsg
import Derived.Test.Qxb6605768aBytesP
namespace Go.Proofs.Qxb6605768a
open Go.RowKit
set_option linter.unusedVariables false

def BMEnd (dn mn en : Nat) (es : Nat → Ent) (pn mn2 : Nat) (w : World) (e : Ending) (w' : World) : Prop :=
  Below w.heap.size w w' ∧ ∃ b, e = .returned (.bool b) ∧ (b = true → mn ≤ 1048576 ∧ en ≤ 1048576 ∧ Small es en ∧ dn + pn ≤ 1048576 ∧ mn2 ≤ 1048576)
theorem bm_no {dn mn en : Nat} {es : Nat → Ent} {pn mn2 : Nat} {w w' : World} (h : Below w.heap.size w w') : BMEnd dn mn en es pn mn2 w (.returned (.bool false)) w' := ⟨h, false, rfl, fun h => by cases h⟩
theorem bm_yes {dn mn en : Nat} {es : Nat → Ent} {pn mn2 : Nat} {w w' : World} (h : Below w.heap.size w w') (hn : mn ≤ 1048576 ∧ en ≤ 1048576 ∧ Small es en ∧ dn + pn ≤ 1048576 ∧ mn2 ≤ 1048576) : BMEnd dn mn en es pn mn2 w (.returned (.bool true)) w' := ⟨h, true, rfl, fun _ => hn⟩

set_option maxRecDepth 100000 in
set_option maxHeartbeats 16000000 in
theorem bytes5_any (ix tm : Int) (da : Option Addr) (dn dc : Nat) (ma : Option Addr) (mn mc : Nat) (ms : Nat → Mem) (rp : Option Addr) (rm : Mem) (z : ZM) (es : Nat → Ent) (ms2 : Nat → Mem) (rm2 : Mem) (w : World)
    (hd : dn ≤ 9223372036854775807) (hm : Mems w ma mn ms) (hr : MemPtr w rp rm) (he : Ents w z.ea z.en es) (hp : z.pn ≤ 9223372036854775807) (hm2 : Mems w z.ma z.mn ms2) (hr2 : MemPtr w z.rp rm2) :
    Calls Try.prog 13 #[.agg #[.int .u64 ix, .int .u64 tm, .slice da dn dc, .slice ma mn mc, .pointer rp], .agg z.val] w (BMEnd dn mn z.en es z.pn z.mn w) := by
  obtain ⟨W, hW⟩ : ∃ W, (w.alloc (.cells #[.int .u64 ix, .int .u64 tm, .slice da dn dc, .slice ma mn mc, .pointer rp] 28)).alloc (.cells z.val 42) = W := ⟨_, rfl⟩
  have hB : Below w.heap.size w W := by rw [← hW]; exact ((Below.refl _ _).alloc (Nat.le_refl _) _).alloc (by simp) _
  have f2 : W.cell? ⟨w.heap.size, 2, none⟩ = some (.slice da dn dc) := by rw [← hW]; simp
  have f3 : W.cell? ⟨w.heap.size, 3, none⟩ = some (.slice ma mn mc) := by rw [← hW]; simp
  have f4 : W.cell? ⟨w.heap.size, 4, none⟩ = some (.pointer rp) := by rw [← hW]; simp
  have g8 : W.cell? ⟨w.heap.size + 1, 8, none⟩ = some (.slice z.ea z.en z.ec) := by rw [← hW]; simp
  have g17 : W.cell? ⟨w.heap.size + 1, 17, none⟩ = some (.slice z.pa z.pn z.pc) := by rw [← hW]; simp
  have g19 : W.cell? ⟨w.heap.size + 1, 19, none⟩ = some (.slice z.ma z.mn z.mc) := by rw [← hW]; simp
  have g20 : W.cell? ⟨w.heap.size + 1, 20, none⟩ = some (.pointer z.rp) := by rw [← hW]; simp
  obtain ⟨hnE, _, hcE⟩ := he.later hB
  obtain ⟨hn, _, hc⟩ := hm.later hB
  obtain ⟨hn2, _, hc2⟩ := hm2.later hB
  have HC : Hid _ := hc
  have HC2 : Hid _ := hc2
  have HCE : Hid _ := hcE
  have HPR : Hid (MemPtr W rp rm) := hr.later hB
  have HPR2 : Hid (MemPtr W z.rp rm2) := hr2.later hB
  have HW : Hid _ := hW
  have HB : Hid _ := hB
  clear hc hcE hc2 he hm hr hm2 hr2 hW hB
  go_enter Try.func13, Try.ntmps13
  go_wp2
  all_goals (try (go_ret; rw [HW.out]; exact bm_no HB.out))
  rw [HW.out]
  go_loop [5, 6] (fun z i => ∃ (k : Nat) (q : Int), k ≤ mn ∧ i = .int .i64 k ∧ z = .int .i64 q ∧ (dn : Int) ≤ q ∧ q ≤ 1048576) (fun _ i => mn - (intOf i).toNat)
  case atStart => exact ⟨0, _, Nat.zero_le _, rfl, rfl, by omega, by omega⟩
  case round =>
    obtain ⟨k, q, hk, rfl, rfl, hq1, hq2⟩ := hrel
    by_cases hlt : k < mn
    · obtain ⟨b, o, rfl, hc⟩ := HC.out (by omega)
      obtain ⟨_, c2, c3, _, _, s1, s2⟩ := hc k hlt
      clear hc
      go_wp2
      all_goals (try (go_ret; exact bm_no HB.out))
      go_round
      case rel => exact ⟨k + 1, _, by omega, by go_num, rfl, by omega, by omega⟩
      case measure => simp [intOf]; omega
    · rcases HPR.out with rfl | ⟨rb, ro, rfl, _, r1, r2, _, _, rs1, rs2⟩
      all_goals
        go_wp2
        all_goals (try (go_ret; exact bm_no HB.out))
        go_loop [5, 7] (fun z' i => ∃ (k : Nat) (q : Int), k ≤ z.en ∧ i = .int .i64 k ∧ z' = .int .i64 q ∧ (dn : Int) ≤ q ∧ q ≤ 1048576 ∧ Small es k) (fun _ i => z.en - (intOf i).toNat)
        case atStart => exact ⟨0, _, Nat.zero_le _, rfl, rfl, by omega, by omega, fun j hj => absurd hj (by omega)⟩
        case round =>
          obtain ⟨kE, qE, hkE, rfl, rfl, hqE1, hqE2, hsm⟩ := hrel
          have HSM : Hid (Small es kE) := hsm
          clear hsm
          by_cases hltE : kE < z.en
          · obtain ⟨bE, oE, hxE, hcE⟩ := HCE.out (by omega)
            obtain ⟨_, cE2, _, cE4, sE1, hmk⟩ := hcE kE hltE
            obtain ⟨hnk, _, hck⟩ := hmk
            have HCK : Hid _ := hck
            have g8' := g8
            rw [hxE] at g8'
            clear hcE hck g8 hxE
            go_wp2
            all_goals (try (go_ret; exact bm_no HB.out))
            go_loop [5, 8] (fun z' i => ∃ (k3 : Nat) (q : Int), k3 ≤ (es kE).mn ∧ i = .int .i64 k3 ∧ z' = .int .i64 q ∧ (dn : Int) ≤ q ∧ q ≤ 1048576) (fun _ i => (es kE).mn - (intOf i).toNat)
            case atStart => exact ⟨0, _, Nat.zero_le _, rfl, rfl, by omega, by omega⟩
            case round =>
              obtain ⟨k3, q3, hk3, rfl, rfl, hq31, hq32⟩ := hrel
              by_cases hlt3 : k3 < (es kE).mn
              · obtain ⟨b3, o3, hx, hc3⟩ := HCK.out (by omega)
                obtain ⟨_, d2, d3, _, _, t1, t2⟩ := hc3 k3 hlt3
                rw [hx] at cE4
                clear hc3 hx
                go_wp2
                all_goals (try (go_ret; exact bm_no HB.out))
                go_round
                case rel => exact ⟨k3 + 1, _, by omega, by go_num, rfl, by omega, by omega⟩
                case measure => simp [intOf]; omega
              · go_wp2
                go_round
                case rel => exact ⟨kE + 1, _, by omega, by go_num, rfl, by omega, by omega, Small.next HSM.out (by omega)⟩
                case measure => simp [intOf]; omega
          · have HSM2 : Hid (Small es z.en) := by have e : kE = z.en := by omega
                                                  rw [← e]; exact HSM.out
            go_wp2
            all_goals (try (go_ret; exact bm_no HB.out))
            have hsum : dn + z.pn ≤ 1048576 := by omega
            go_loop [5, 9] (fun z' i => ∃ (k2 : Nat) (q : Int), k2 ≤ z.mn ∧ i = .int .i64 k2 ∧ z' = .int .i64 q) (fun _ i => z.mn - (intOf i).toNat)
            case atStart => exact ⟨0, _, Nat.zero_le _, rfl, rfl⟩
            case round =>
              obtain ⟨k2, q2, hk2, rfl, rfl⟩ := hrel
              by_cases hlt2 : k2 < z.mn
              · obtain ⟨b2, o2, hx2, hc2⟩ := HC2.out (by omega)
                obtain ⟨_, d2, d3, _, _, t1, t2⟩ := hc2 k2 hlt2
                rw [hx2] at g19
                clear hc2 hx2
                go_wp2
                all_goals (try (go_ret; exact bm_no HB.out))
                go_round
                case rel => exact ⟨k2 + 1, _, by omega, by go_num, rfl⟩
                case measure => simp [intOf]; omega
              · rcases HPR2.out with hr2 | ⟨rb2, ro2, hr2, _, r1', r2', _, _, rs1', rs2'⟩
                all_goals
                  rw [hr2] at g20
                  clear hr2
                  go_wp2
                  all_goals (try (go_ret; exact bm_no HB.out))
                  all_goals (go_ret; exact bm_yes HB.out ⟨by omega, by omega, HSM2.out, hsum, by omega⟩)

end Go.Proofs.Qxb6605768a

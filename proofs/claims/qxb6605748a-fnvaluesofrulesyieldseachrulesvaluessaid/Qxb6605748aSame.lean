/-
  Seat b6605748a. sameSliceB1 (10), called with one slice twice.
-/
import Derived.Test.Qxb6605748aReads
namespace Go.Proofs.Qxb6605748a
open Go.RowKit
set_option linter.unusedVariables false

theorem run_neq_ptr_same {P : Program} (w : World) {tp te : TypeId} {j : TypeInfo} (a : Addr) (hp : P.underlying tp = some (.pointer te)) (hte : P.info? te = some j) :
    (binOp .neq tp (.pointer (some a)) (.pointer (some a))).run P w = .ok (.bool false) w := by
  have h : ∀ d : Nat, (Op.equalIn (d + 1) tp (.pointer (some a)) (.pointer (some a))).run P w = .ok true w := fun d => by
    simp [Op.equalIn, run_underlying hp, sizeOf, typeInfo, hte, run_sameAddr_same]
  simp only [binOp]
  simp [Op.equal, Op.maxDepth, h 9999]

set_option maxHeartbeats 1000000 in
theorem same_any (a : Option Addr) (n c : Nat) (w : World) (h : StrRow w (.slice a n c)) :
    Calls Try.prog 10 #[.slice a n c, .slice a n c] w fun e w' => e = .returned (.bool true) ∧ ∃ m, w' = w.drewN m := by
  obtain ⟨a', n', c', he, hn, hc⟩ := h
  cases he
  have q30 : ∀ (w : World) (a : Option Addr) (n c : Nat), (binOp .eql 30 (.slice a n c) (.slice none 0 0)).run Try.prog w = .ok (.bool a.isNone) w := fun w a n c => Lib.run_eql_slice_nil w _ _ a n c 0 0 Try.underlying30
  have HC : Hid _ := hc
  clear hc
  go_enter Try.func10, Try.ntmps10
  go_wp2
  go_loopw [5] (fun i wr => ∃ (k m : Nat), k ≤ n ∧ i = .int .i64 k ∧ wr = w.drewN m) (fun i _ => n - (intOf i).toNat)
  case atStart => exact ⟨0, 0, Nat.zero_le _, rfl, rfl⟩
  case round =>
    obtain ⟨k, m, hk, rfl, rfl⟩ := hrel
    by_cases hlt : k < n
    · obtain ⟨b, o, rfl, hc⟩ := HC.out (by omega)
      obtain ⟨s, hs⟩ := hc k hlt
      clear hc
      go_wp2
      go_quiet (fail)
      go_wp2
      go_roundw
      case rel => exact ⟨k + 1, _, by omega, by go_num, rfl⟩
      case measure => simp [intOf]; omega
    · by_cases h0 : 0 < n
      · obtain ⟨b, o, rfl, hc⟩ := HC.out h0
        clear hc
        have hte : (Try.prog.info? 9).isSome = true := by kernel_rfl
        obtain ⟨j9, hj9⟩ := Option.isSome_iff_exists.1 hte
        have qp : ∀ (w : World) (a : Addr), (binOp .neq 40 (.pointer (some a)) (.pointer (some a))).run Try.prog w = .ok (.bool false) w := fun w a => run_neq_ptr_same w a Try.underlying40 hj9
        clear hte
        have h0' : (0 : Int) < (n : Int) := by omega
        go_wp2
        go_quiet (fail)
        go_wp2
        go_ret
        exact ⟨rfl, _, World.drewN_drewN _ _ _⟩
      · have hd : decide ((0 : Int) < (n : Int)) = false := by simp; omega
        go_wp2
        go_quiet (fail)
        go_wp2
        go_ret
        exact ⟨rfl, _, World.drewN_drewN _ _ _⟩

end Go.Proofs.Qxb6605748a

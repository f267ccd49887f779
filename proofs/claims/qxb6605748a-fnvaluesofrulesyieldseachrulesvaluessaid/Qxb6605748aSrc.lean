/-
  Seat b6605748a. ZZvaluesOfRules$1 (function 13): the sequence of rules that counts what it hands out.
-/
import Derived.RangeFuncNested
import Derived.RangeFuncBound
import Derived.RangeFuncCalls
import Derived.RangeFuncLeaves
import Derived.Shelf.Abstract
import Derived.Shelf.RegionOpen
import Derived.WalkKit
import Derived.OwnWalkIn
import Derived.TacticsInMore
import Derived.LoopNIn
import Derived.LoopIn
import Derived.Test.Qxb6605748aIter
import Derived.Test.Qxb6605748aProg
namespace Go.Proofs.Qxb6605748a
open Go.RowKit Go.Shelf

attribute [local go_sem] Oper.semAt_some

/-- Below n₀ every cell but the counter's reads as it did. -/
def Keep (n₀ bp : Nat) (W W' : World) : Prop := ∀ b o, b < n₀ → b ≠ bp → W'.cell? ⟨b, o, none⟩ = W.cell? ⟨b, o, none⟩

/-- The counter's own step. -/
def Turn (bp : Nat) (A B : World) : Prop := ∃ v, B = A.setCell ⟨bp, 0, none⟩ v

/-- The counter says k. -/
def Count (bp : Nat) (k : Nat) (W : World) : Prop := Boxed W bp 3 (.int .i64 k)

set_option maxRecDepth 100000 in
set_option maxHeartbeats 1000000 in
theorem src_in (l Bv Ba bp n₀ bv ba N cv ca : Nat) (row : Nat → Value) (zs : Nat → Int) (hN : N ≤ 65536) (J Jx : Nat → World → Prop)
    (hBv : Bv < n₀) (hBa : Ba < n₀) (hbp : bp < n₀) (hbv : bv < n₀) (hba : ba < n₀) (nBv : Bv ≠ bp) (nBa : Ba ≠ bp) (nbv : bv ≠ bp) (nba : ba ≠ bp)
    (hJ : ∀ k (W : World), J k W → J k W.drew) (hJT : ∀ k A B, J k A → Turn bp A B → J k B)
    (hY : ∀ k W1, k < N → J k W1 → YieldAt Fence.wide 0 Try.prog l #[.agg #[row k, .int .i64 (zs k)]] W1 fun e W' =>
      Below n₀ W1 W' ∧ ((e = .returned (.bool true) ∧ J (k + 1) W') ∨ (e = .returned (.bool false) ∧ Jx (k + 1) W')))
    (W : World) (cBv : W.cell? ⟨Bv, 0, none⟩ = some (.slice (some ⟨bv, 0, none⟩) N cv)) (cBa : 0 < N → W.cell? ⟨Ba, 0, none⟩ = some (.slice (some ⟨ba, 0, none⟩) N ca)) (cbp : Count bp 0 W)
    (cv' : ∀ j, j < N → W.cell? ⟨bv, j, none⟩ = some (row j)) (ca' : ∀ j, j < N → W.cell? ⟨ba, j, none⟩ = some (.int .i64 (zs j))) (hrow : ∀ j, j < N → ∃ a n c, row j = .slice a n c) (h0 : J 0 W) :
    CallsIn Fence.wide 0 Try.prog 13 #[.func (.yield l) #[] #[], .pointer (some ⟨Bv, 0, none⟩), .pointer (some ⟨bp, 0, none⟩), .pointer (some ⟨Ba, 0, none⟩)] W fun e W' => (∃ v, e = .returned v) ∧
      ((J N W' ∧ Count bp N W') ∨ ∃ k, k ≤ N ∧ Jx k W' ∧ Count bp k W') := by
  have hmx : Try.prog.follows .mixedOrders = true := by kernel_rfl
  have HJ : Hid (∀ k (W : World), J k W → J k W.drew) := hJ
  have HJT : Hid (∀ k A B, J k A → Turn bp A B → J k B) := hJT
  have HY : Hid (∀ k W1, k < N → J k W1 → YieldAt Fence.wide 0 Try.prog l #[.agg #[row k, .int .i64 (zs k)]] W1 fun e W' =>
      Below n₀ W1 W' ∧ ((e = .returned (.bool true) ∧ J (k + 1) W') ∨ (e = .returned (.bool false) ∧ Jx (k + 1) W'))) := hY
  have HV : Hid (∀ j, j < N → W.cell? ⟨bv, j, none⟩ = some (row j)) := cv'
  have HA : Hid (∀ j, j < N → W.cell? ⟨ba, j, none⟩ = some (.int .i64 (zs j))) := ca'
  have HB : Hid (0 < N → W.cell? ⟨Ba, 0, none⟩ = some (.slice (some ⟨ba, 0, none⟩) N ca)) := cBa
  have HR : Hid (∀ j, j < N → ∃ a n c, row j = .slice a n c) := hrow
  clear hJ hJT hY cv' ca' cBa hrow
  refine callsIn_of_wp Try.func13 rfl trivial ?_ rfl
  simp only [Try.ntmps13, List.size_toArray, List.length_cons, List.length_nil, Nat.reduceAdd, Nat.reduceSub, Array.replicate_succ, Array.replicate_zero, List.push_toArray, List.append_toArray, List.nil_append, List.cons_append]
  gi_wp2
  gi_loopw [8] (fun i wr => ∃ k : Nat, k ≤ N ∧ i = .int .i64 k ∧ J k wr ∧ Count bp k wr ∧ Keep n₀ bp W wr)
    (fun i _ => N - (intOf i).toNat)
  case atStart => exact ⟨0, Nat.zero_le _, rfl, h0, cbp, fun _ _ _ _ => rfl⟩
  case round =>
    obtain ⟨k, hk, rfl, hJk, hck, hKp⟩ := hrel
    by_cases hlt : k < N
    · have cp := hck.cell
      have fp := hck.frozen
      obtain ⟨ra, rn, rc, hre⟩ := HR.out k hlt
      have sp := hck.set (.int .i64 ((k : Int) + 1))
      have jW := HJ.out k _ (HJT.out k wr _ hJk ⟨.int .i64 ((k : Int) + 1), rfl⟩)
      have kW : Keep n₀ bp W (wr.setCell ⟨bp, 0, none⟩ (.int .i64 ((k : Int) + 1))) := fun b o hb hne => (World.cell?_of_block (Below.heap_setCell wr ⟨bp, 0, none⟩ _ b hne)).trans (hKp b o hb hne)
      gi_wp2
      clear cp fp
      obtain ⟨W1, hW1⟩ : ∃ W1, wr.setCell ⟨bp, 0, none⟩ (.int .i64 ((k : Int) + 1)) = W1 := ⟨_, rfl⟩
      rw [hW1] at sp jW kW ⊢
      clear hW1 hck hKp hJk
      have c1 := (kW Bv 0 hBv nBv).trans cBv
      have c2 := (kW Ba 0 hBa nBa).trans (HB.out (by omega))
      have c3 := (kW bv k hbv nbv).trans (HV.out k hlt)
      have c4 := (kW ba k hba nba).trans (HA.out k hlt)
      rw [hre] at c3
      obtain ⟨fn, tmps, assign, body, hy, hR⟩ := HY.out k W1.drew hlt jW
      rw [hre] at hy
      have hR' : RoundIn Fence.wide 0 Try.prog l fn tmps assign body W1.drew fun e W' => ∃ b, e = .returned (.bool b) ∧ Below n₀ W1.drew W' ∧ ((b = true ∧ J (k + 1) W') ∨ (b = false ∧ Jx (k + 1) W')) := hR.mono fun e W' ⟨h1, h2⟩ => by
        rcases h2 with ⟨rfl, h2⟩ | ⟨rfl, h2⟩
        · exact ⟨_, rfl, h1, .inl ⟨rfl, h2⟩⟩
        · exact ⟨_, rfl, h1, .inr ⟨rfl, h2⟩⟩
      clear hR
      have cBvH : Hid _ := cBv
      clear cBv
      gi_region_with_o (refine ⟨rfl, hR'.mono ?_⟩; rintro e W3 ⟨b, rfl, hB3, hb3⟩)
      all_goals
        have cnt : Count bp (k + 1) W3 := (hB3.block bp hbp).trans sp
        have kp3 : Keep n₀ bp W W3 := fun b o hb hne => (hB3.cell (p := ⟨b, o, none⟩) hb).trans (kW b o hb hne)
        clear hB3 c1 c2 c3 c4 hy hR' kW jW sp
        rcases hb3 with ⟨rfl, h3⟩ | ⟨rfl, h3⟩
        · gi_wp2
          go_roundw
          case rel => exact ⟨k + 1, by omega, by go_num, h3, cnt, kp3⟩
          case measure => simp [intOf]; omega
        · gi_wp2
          refine bodyPost_ret (results_none rfl _ _ _) rfl ?_
          exact ⟨⟨_, rfl⟩, .inr ⟨k + 1, by omega, h3, cnt⟩⟩
    · obtain rfl : k = N := by omega
      gi_wp2
      go_end0
      exact ⟨⟨_, rfl⟩, .inl ⟨hJk, hck⟩⟩

end Go.Proofs.Qxb6605748a

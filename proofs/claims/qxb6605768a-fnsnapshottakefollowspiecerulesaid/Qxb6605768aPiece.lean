/-
  Seat b6605768a. The statement 'Rows.FnSnapshotTakeFollowsPieceRuleSaid'.
-/
import Derived.Test.Qxb6605768aOpenM
import Derived.Test.Qxb6605768aLaw5
namespace Go.Proofs.Qxb6605768a
namespace PieceRule
open Go.ChangeShapes Go.WideShapes Go.ChangeAt Go.RowKit Go.Deep
open Go.ChangeMaps (open_string shut_string)
set_option linter.unusedVariables false

set_option maxRecDepth 100000 in
theorem lifted (os : Os) (started : os.Started) (H : Type) (enc : TypeId × Value → H) :
    ReturnsInHanded {} Try.checked os 5 .any (Rows.fnSnapshotTakeFollowsPieceRuleSpec.pre6 enc Try.prog Try.f5 Rows.fnSnapshotTakeFollowsPieceRuleRow.domain false) (Rows.fnSnapshotTakeFollowsPieceRuleSpec.post enc Try.prog Try.f5 false true false false) := by
  refine returnsInHanded_of_change (C := Try.checked) own started (by kernel_rfl) Try.func5
    (ChangeSpec.witness6 (enc := enc) (C := Try.checked) false ⟨#[], #[.agg #[.int .u64 0, .int .u64 0, .slice none 0 0, .slice none 0 0, .pointer none], .agg #[.int .u8 0, .int .i64 0, .int .i64 0, .int .u64 0, .int .u64 0, .int .u64 0, .int .u64 0, .int .u64 0, .slice none 0 0, .int .u64 0, .bool false, .bool false, .bool false, .int .u64 0, .int .u64 0, .int .u64 0, .int .u64 0, .slice none 0 0, .bool false, .slice none 0 0, .pointer none, .int .u64 0, .int .u64 0]], []⟩ 8 (by kernel_rfl) (by kernel_rfl) (by kernel_rfl) (by kernel_rfl)) ?_
  intro W base args ds gs before hval0 hW hcnd _
  have hval : ∀ (j : Nat) t v, Try.f5.params[j]? = some t → args[j]? = some v → Value.okWide Try.prog W .any base t v := hval0
  have hW' := hW
  obtain ⟨p, q, hA0, hV, rfl, hfz, hnd⟩ := hW
  have hA : DataW.TrodAll enc Try.prog W 0 (fun _ => true) true Try.f5.params.toList args.toList ds p := hA0
  rw [Try.params5] at hA hval
  obtain ⟨v0, vs0, d0, ds0, p0, q0, hargs, rfl, rfl, h0, r0⟩ := trodAll_cons hA
  obtain ⟨v1, vs1, d1, ds1, p1, q1, rfl, rfl, rfl, h1, r1⟩ := trodAll_cons r0
  obtain ⟨rfl, rfl, rfl⟩ := trodAll_nil r1
  obtain rfl : args = #[v0, v1] := by cases args; simp_all
  obtain ⟨rfl, rfl⟩ := trodVars_none hV
  have k0 := h0
  have k1 := h1
  have lt0 : ∀ x ∈ p0, x.block < W.heap.size := by obtain ⟨m, hm⟩ := k0; exact DataW.trod_lt m _ _ _ hm
  have lt1 : ∀ x ∈ p1, x.block < W.heap.size := by obtain ⟨m, hm⟩ := k1; exact DataW.trod_lt m _ _ _ hm
  obtain ⟨ix, tm, da, dn, dc, bs, ma, mn, mc, ms, rp, rm, rfl, w0a, w0b, w0c⟩ := snap_of (hval 0 28 v0 rfl rfl) h0
  obtain ⟨z, es, bs2, ms2, rm2, rfl, x1, x2, x3, x4, x5, x6⟩ := msg_of (hval 1 42 v1 rfl rfl) h1
  clear hA0 hval0
  refine (law5 ix tm da dn dc bs ma mn mc ms rp rm z es bs2 ms2 rm2 W w0a w0b w0c x1 x2 x3 x4 x5).mono fun e W' ⟨he, bel⟩ => ?_
  subst he
  exact ⟨_, rfl, _, _, _, [], _, [], hW', trodAll_mk1 (shut_bool Try.underlying4 _),
    (trodAll_cons_mk (Below.trod laidOut (by kernel_rfl) (of_decide_eq_true (by kernel_rfl)) k0 bel lt0) (trodAll_cons_mk (Below.trod laidOut (by kernel_rfl) (of_decide_eq_true (by kernel_rfl)) k1 bel lt1) trodAll_mk0)), rfl, bel.frame _, fun h => by cases h⟩

theorem over : Rows.fnSnapshotTakeFollowsPieceRuleRow.holds Try.pinned (OpenSpec.ofChange Rows.fnSnapshotTakeFollowsPieceRuleSpec) :=
  OpenClaim.holds_of_wide 5 Try.f5 rfl rfl rfl rfl rfl rfl rfl ⟨rfl, rfl, rfl, rfl, rfl⟩ rfl rfl rfl rfl rfl (by kernel_rfl) Try.func5 (by kernel_rfl)
    (of_decide_eq_true (by kernel_rfl)) (by unfold Func.isWrapper; first | (rw [if_pos (by decide +kernel)]; kernel_rfl) | (rw [if_neg (by decide +kernel)]; exact ⟨rfl, rfl⟩))
    (fun os started H enc _ => lifted os started H enc)

end PieceRule

/-- THE STATEMENT -/
theorem pieceRuleProved : Rows.FnSnapshotTakeFollowsPieceRuleSaid := PieceRule.over
end Go.Proofs.Qxb6605768a

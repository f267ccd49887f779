/-
  No cell of these rows narrows 'for every input' (looked for: loops, veiled, ifaces, maps, wideKeys, modest, calm, conditions, laid).
  DERIVED. THE GIVEN ROWS OF THIS SEAT. 4 by the template 'for every input the law returns true; each argument reads behind the call as it read before'; 0 by the template 'total and deterministic' (their statements: Qxb6605768aTotals.lean).
  GIVEN WITH THE SEED: the statements are not yours to turn. If you find one false, say at which input.
  Laid BY PROGRAM, IN A SANDBOX (cutbox-rows.mjs): the forced cells as the released guide's own fill.sh prints them over the translation 6da66d5c0d5f9723… (all of the seat's roots in one cut). By AI agents, Wed Nov 11 2026. No macro, syntax, notation, axiom, sorry.
-/
import Derived.Test.Qxb6605768aChecked
import GoSem.Claim
import GoSem.ClaimJoined
import GoSem.ClaimMapViews
import Derived.JoinedTies
import Derived.KernelRfl
namespace Go.Proofs.Qxb6605768a
/- THE CELL 'sum', in the pinned program and in every row, IS THE sha256 OF THE DUMP (.gsa) THAT Qxb6605768aProg.lean LOADS. Nothing in Lean hashes anything: it is a label: what it is worth is what the hold of that sum in a sandbox is worth. -/
noncomputable def Try.pinned : Pinned := { name := "qxb6605768a", sum := "6da66d5c0d5f9723e89f5f56eca2600db3969d5b7032f847d0d6853ec31cedf9", checked := Try.checked }
namespace Rows
def none {H : Type} : Left H := { results := [], args := [] }

/-- 'zzlaws_internal_protocol_b1.FnUpToDateComparesLastEntries': WHATEVER THE INPUT: true; the input reads as it did. -/
def fnUpToDateComparesLastEntriesSpec : ChangeSpec := { name := "fnUpToDateComparesLastEntries", fn := fun _ => fun
  | [d1, d2, d3] => { results := [.lit (.bool true)], args := [d1, d2, d3] }
  | _ => none }
def fnUpToDateComparesLastEntriesRow : OpenClaim := { program := "qxb6605768a", sum := "6da66d5c0d5f9723e89f5f56eca2600db3969d5b7032f847d0d6853ec31cedf9", func := "example.com/quorumline/quorumline/zzlaws_internal_protocol_b1.FnUpToDateComparesLastEntries", spec := "fnUpToDateComparesLastEntries", apart := false }
def FnUpToDateComparesLastEntriesSaid : Prop := fnUpToDateComparesLastEntriesRow.holds Try.pinned (OpenSpec.ofChange fnUpToDateComparesLastEntriesSpec)

/-- ITS FALSE NEIGHBOUR: 'it returns false'. Refute it at one input. -/
def fnUpToDateComparesLastEntriesWrong : ChangeSpec := { name := "fnUpToDateComparesLastEntries", fn := fun _ => fun
  | [d1, d2, d3] => { results := [.lit (.bool false)], args := [d1, d2, d3] }
  | _ => none }
def FnUpToDateComparesLastEntriesWrongFalsely : Prop := fnUpToDateComparesLastEntriesRow.holds Try.pinned (OpenSpec.ofChange fnUpToDateComparesLastEntriesWrong)

/-- 'zzlaws_internal_protocol_b1.FnUpToDateOwnLastIsThresholdAndMonotone': WHATEVER THE INPUT: true; the input reads as it did. -/
def fnUpToDateOwnLastIsThresholdAndMonotoneSpec : ChangeSpec := { name := "fnUpToDateOwnLastIsThresholdAndMonotone", fn := fun _ => fun
  | [d1, d2, d3, d4, d5] => { results := [.lit (.bool true)], args := [d1, d2, d3, d4, d5] }
  | _ => none }
def fnUpToDateOwnLastIsThresholdAndMonotoneRow : OpenClaim := { program := "qxb6605768a", sum := "6da66d5c0d5f9723e89f5f56eca2600db3969d5b7032f847d0d6853ec31cedf9", func := "example.com/quorumline/quorumline/zzlaws_internal_protocol_b1.FnUpToDateOwnLastIsThresholdAndMonotone", spec := "fnUpToDateOwnLastIsThresholdAndMonotone", apart := false }
def FnUpToDateOwnLastIsThresholdAndMonotoneSaid : Prop := fnUpToDateOwnLastIsThresholdAndMonotoneRow.holds Try.pinned (OpenSpec.ofChange fnUpToDateOwnLastIsThresholdAndMonotoneSpec)

/-- ITS FALSE NEIGHBOUR: 'it returns false'. Refute it at one input. -/
def fnUpToDateOwnLastIsThresholdAndMonotoneWrong : ChangeSpec := { name := "fnUpToDateOwnLastIsThresholdAndMonotone", fn := fun _ => fun
  | [d1, d2, d3, d4, d5] => { results := [.lit (.bool false)], args := [d1, d2, d3, d4, d5] }
  | _ => none }
def FnUpToDateOwnLastIsThresholdAndMonotoneWrongFalsely : Prop := fnUpToDateOwnLastIsThresholdAndMonotoneRow.holds Try.pinned (OpenSpec.ofChange fnUpToDateOwnLastIsThresholdAndMonotoneWrong)

/-- 'zzlaws_internal_protocol_b1.FnSnapshotTakeFollowsPieceRule': WHATEVER THE INPUT: true; the input reads as it did. -/
def fnSnapshotTakeFollowsPieceRuleSpec : ChangeSpec := { name := "fnSnapshotTakeFollowsPieceRule", fn := fun _ => fun
  | [d1, d2] => { results := [.lit (.bool true)], args := [d1, d2] }
  | _ => none }
def fnSnapshotTakeFollowsPieceRuleRow : OpenClaim := { program := "qxb6605768a", sum := "6da66d5c0d5f9723e89f5f56eca2600db3969d5b7032f847d0d6853ec31cedf9", func := "example.com/quorumline/quorumline/zzlaws_internal_protocol_b1.FnSnapshotTakeFollowsPieceRule", spec := "fnSnapshotTakeFollowsPieceRule", apart := false }
def FnSnapshotTakeFollowsPieceRuleSaid : Prop := fnSnapshotTakeFollowsPieceRuleRow.holds Try.pinned (OpenSpec.ofChange fnSnapshotTakeFollowsPieceRuleSpec)

/-- ITS FALSE NEIGHBOUR: 'it returns false'. Refute it at one input. -/
def fnSnapshotTakeFollowsPieceRuleWrong : ChangeSpec := { name := "fnSnapshotTakeFollowsPieceRule", fn := fun _ => fun
  | [d1, d2] => { results := [.lit (.bool false)], args := [d1, d2] }
  | _ => none }
def FnSnapshotTakeFollowsPieceRuleWrongFalsely : Prop := fnSnapshotTakeFollowsPieceRuleRow.holds Try.pinned (OpenSpec.ofChange fnSnapshotTakeFollowsPieceRuleWrong)

/-- 'zzlaws_internal_protocol_b1.FnSnapshotTakeAssemblesInOrderPieces': WHATEVER THE INPUT: true; the input reads as it did. -/
def fnSnapshotTakeAssemblesInOrderPiecesSpec : ChangeSpec := { name := "fnSnapshotTakeAssemblesInOrderPieces", fn := fun _ => fun
  | [d1, d2, d3, d4, d5, d6, d7] => { results := [.lit (.bool true)], args := [d1, d2, d3, d4, d5, d6, d7] }
  | _ => none }
def fnSnapshotTakeAssemblesInOrderPiecesRow : OpenClaim := { program := "qxb6605768a", sum := "6da66d5c0d5f9723e89f5f56eca2600db3969d5b7032f847d0d6853ec31cedf9", func := "example.com/quorumline/quorumline/zzlaws_internal_protocol_b1.FnSnapshotTakeAssemblesInOrderPieces", spec := "fnSnapshotTakeAssemblesInOrderPieces", apart := false }
def FnSnapshotTakeAssemblesInOrderPiecesSaid : Prop := fnSnapshotTakeAssemblesInOrderPiecesRow.holds Try.pinned (OpenSpec.ofChange fnSnapshotTakeAssemblesInOrderPiecesSpec)

/-- ITS FALSE NEIGHBOUR: 'it returns false'. Refute it at one input. -/
def fnSnapshotTakeAssemblesInOrderPiecesWrong : ChangeSpec := { name := "fnSnapshotTakeAssemblesInOrderPieces", fn := fun _ => fun
  | [d1, d2, d3, d4, d5, d6, d7] => { results := [.lit (.bool false)], args := [d1, d2, d3, d4, d5, d6, d7] }
  | _ => none }
def FnSnapshotTakeAssemblesInOrderPiecesWrongFalsely : Prop := fnSnapshotTakeAssemblesInOrderPiecesRow.holds Try.pinned (OpenSpec.ofChange fnSnapshotTakeAssemblesInOrderPiecesWrong)

end Rows
end Go.Proofs.Qxb6605768a

/-
  No cell of these rows narrows 'for every input' (looked for: loops, veiled, ifaces, maps, wideKeys, modest, calm, conditions, laid).
  DERIVED. THE GIVEN ROWS OF THIS SEAT. 2 by the template 'for every input the law returns true; each argument reads behind the call as it read before'; 0 by the template 'total and deterministic' (their statements: Qxb6605748aTotals.lean).
  GIVEN WITH THE SEED: the statements are not yours to turn. If you find one false, say at which input.
  Laid BY PROGRAM, IN A SANDBOX (cutbox-rows.mjs): the forced cells as the released guide's own fill.sh prints them over the translation c839131cc537fc71… (all of the seat's roots in one cut). By AI agents, Wed Nov 11 2026. No macro, syntax, notation, axiom, sorry.
-/
import Derived.Test.Qxb6605748aChecked
import GoSem.Claim
import GoSem.ClaimJoined
import GoSem.ClaimMapViews
import Derived.JoinedTies
import Derived.KernelRfl
namespace Go.Proofs.Qxb6605748a
/- THE CELL 'sum', in the pinned program and in every row, IS THE sha256 OF THE DUMP (.gsa) THAT Qxb6605748aProg.lean LOADS. Nothing in Lean hashes anything: it is a label: what it is worth is what the hold of that sum in a sandbox is worth. -/
noncomputable def Try.pinned : Pinned := { name := "qxb6605748a", sum := "c839131cc537fc712b39f2e0ce63f4a3d458c7a881fcf7b2e96a5ca080d4febe", checked := Try.checked }
namespace Rows
def none {H : Type} : Left H := { results := [], args := [] }

/-- 'zzlaws_root_b1.FnValuesOfRulesYieldsEachRulesValues': WHATEVER THE INPUT: true; the input reads as it did. -/
def fnValuesOfRulesYieldsEachRulesValuesSpec : ChangeSpec := { name := "fnValuesOfRulesYieldsEachRulesValues", fn := fun _ => fun
  | [d1, d2] => { results := [.lit (.bool true)], args := [d1, d2] }
  | _ => none }
def fnValuesOfRulesYieldsEachRulesValuesRow : OpenClaim := { program := "qxb6605748a", sum := "c839131cc537fc712b39f2e0ce63f4a3d458c7a881fcf7b2e96a5ca080d4febe", func := "example.com/tripel/tripel/zzlaws_root_b1.FnValuesOfRulesYieldsEachRulesValues", spec := "fnValuesOfRulesYieldsEachRulesValues", unfollowed := true, recurses := true, apart := false }
def FnValuesOfRulesYieldsEachRulesValuesSaid : Prop := fnValuesOfRulesYieldsEachRulesValuesRow.holds Try.pinned (OpenSpec.ofChange fnValuesOfRulesYieldsEachRulesValuesSpec)

/-- ITS FALSE NEIGHBOUR: 'it returns false'. Refute it at one input. -/
def fnValuesOfRulesYieldsEachRulesValuesWrong : ChangeSpec := { name := "fnValuesOfRulesYieldsEachRulesValues", fn := fun _ => fun
  | [d1, d2] => { results := [.lit (.bool false)], args := [d1, d2] }
  | _ => none }
def FnValuesOfRulesYieldsEachRulesValuesWrongFalsely : Prop := fnValuesOfRulesYieldsEachRulesValuesRow.holds Try.pinned (OpenSpec.ofChange fnValuesOfRulesYieldsEachRulesValuesWrong)

/-- 'zzlaws_root_b1.FnValuesOfRulesStopsWhenAsked': WHATEVER THE INPUT: true; the input reads as it did. -/
def fnValuesOfRulesStopsWhenAskedSpec : ChangeSpec := { name := "fnValuesOfRulesStopsWhenAsked", fn := fun _ => fun
  | [d1, d2, d3] => { results := [.lit (.bool true)], args := [d1, d2, d3] }
  | _ => none }
def fnValuesOfRulesStopsWhenAskedRow : OpenClaim := { program := "qxb6605748a", sum := "c839131cc537fc712b39f2e0ce63f4a3d458c7a881fcf7b2e96a5ca080d4febe", func := "example.com/tripel/tripel/zzlaws_root_b1.FnValuesOfRulesStopsWhenAsked", spec := "fnValuesOfRulesStopsWhenAsked", unfollowed := true, recurses := true, apart := false }
def FnValuesOfRulesStopsWhenAskedSaid : Prop := fnValuesOfRulesStopsWhenAskedRow.holds Try.pinned (OpenSpec.ofChange fnValuesOfRulesStopsWhenAskedSpec)

/-- ITS FALSE NEIGHBOUR: 'it returns false'. Refute it at one input. -/
def fnValuesOfRulesStopsWhenAskedWrong : ChangeSpec := { name := "fnValuesOfRulesStopsWhenAsked", fn := fun _ => fun
  | [d1, d2, d3] => { results := [.lit (.bool false)], args := [d1, d2, d3] }
  | _ => none }
def FnValuesOfRulesStopsWhenAskedWrongFalsely : Prop := fnValuesOfRulesStopsWhenAskedRow.holds Try.pinned (OpenSpec.ofChange fnValuesOfRulesStopsWhenAskedWrong)

end Rows
end Go.Proofs.Qxb6605748a

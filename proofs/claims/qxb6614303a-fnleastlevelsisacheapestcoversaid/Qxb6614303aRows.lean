/-
  No cell of these rows narrows 'for every input' (looked for: loops, veiled, ifaces, maps, wideKeys, modest, calm, conditions, laid).
  DERIVED. THE GIVEN ROWS OF THIS SEAT. 4 by the template 'for every input the law returns true; each argument reads behind the call as it read before'; 0 by the template 'total and deterministic' (their statements: Qxb6614303aTotals.lean).
  GIVEN WITH THE SEED: the statements are not yours to turn. If you find one false, say at which input.
  Laid BY PROGRAM, IN A SANDBOX (cutbox-rows.mjs): the forced cells as the released guide's own fill.sh prints them over the translation a0762aee18ba58ce… (all of the seat's roots in one cut). By AI agents, Wed Nov 11 2026. No macro, syntax, notation, axiom, sorry.
-/
import Derived.Test.Qxb6614303aChecked
import GoSem.Claim
import GoSem.ClaimJoined
import GoSem.ClaimMapViews
import Derived.JoinedTies
import Derived.KernelRfl
namespace Go.Proofs.Qxb6614303a
/- THE CELL 'sum', in the pinned program and in every row, IS THE sha256 OF THE DUMP (.gsa) THAT Qxb6614303aProg.lean LOADS. Nothing in Lean hashes anything: it is a label: what it is worth is what the hold of that sum in a sandbox is worth. -/
noncomputable def Try.pinned : Pinned := { name := "qxb6614303a", sum := "a0762aee18ba58cea486165dc8d99d8a9dd0131a43d7b7db943e20f542374fcc", checked := Try.checked }
namespace Rows
def none {H : Type} : Left H := { results := [], args := [] }

/-- 'zzlaws_root_b1.FnLeastLevelsIsACheapestCover': WHATEVER THE INPUT: true; the input reads as it did. -/
def fnLeastLevelsIsACheapestCoverSpec : ChangeSpec := { name := "fnLeastLevelsIsACheapestCover", fn := fun _ => fun
  | [d1, d2] => { results := [.lit (.bool true)], args := [d1, d2] }
  | _ => none }
def fnLeastLevelsIsACheapestCoverRow : OpenClaim := { program := "qxb6614303a", sum := "a0762aee18ba58cea486165dc8d99d8a9dd0131a43d7b7db943e20f542374fcc", func := "example.com/glimpse24/glimpse24/zzlaws_root_b1.FnLeastLevelsIsACheapestCover", spec := "fnLeastLevelsIsACheapestCover", inPlace := ["math.sqrt", "math.archCeil", "math.archFloor", "math.Float64bits", "math.Float64frombits", "math.archTrunc"], recurses := true, apart := false }
def FnLeastLevelsIsACheapestCoverSaid : Prop := fnLeastLevelsIsACheapestCoverRow.holds Try.pinned (OpenSpec.ofChange fnLeastLevelsIsACheapestCoverSpec)

/-- ITS FALSE NEIGHBOUR: 'it returns false'. Refute it at one input. -/
def fnLeastLevelsIsACheapestCoverWrong : ChangeSpec := { name := "fnLeastLevelsIsACheapestCover", fn := fun _ => fun
  | [d1, d2] => { results := [.lit (.bool false)], args := [d1, d2] }
  | _ => none }
def FnLeastLevelsIsACheapestCoverWrongFalsely : Prop := fnLeastLevelsIsACheapestCoverRow.holds Try.pinned (OpenSpec.ofChange fnLeastLevelsIsACheapestCoverWrong)

/-- 'zzlaws_root_b1.FnLeastLevelsFollowsAShiftOfEveryNeed': WHATEVER THE INPUT: true; the input reads as it did. -/
def fnLeastLevelsFollowsAShiftOfEveryNeedSpec : ChangeSpec := { name := "fnLeastLevelsFollowsAShiftOfEveryNeed", fn := fun _ => fun
  | [d1, d2, d3] => { results := [.lit (.bool true)], args := [d1, d2, d3] }
  | _ => none }
def fnLeastLevelsFollowsAShiftOfEveryNeedRow : OpenClaim := { program := "qxb6614303a", sum := "a0762aee18ba58cea486165dc8d99d8a9dd0131a43d7b7db943e20f542374fcc", func := "example.com/glimpse24/glimpse24/zzlaws_root_b1.FnLeastLevelsFollowsAShiftOfEveryNeed", spec := "fnLeastLevelsFollowsAShiftOfEveryNeed", inPlace := ["math.sqrt", "math.archCeil", "math.archFloor", "math.Float64bits", "math.Float64frombits", "math.archTrunc"], recurses := true, apart := false }
def FnLeastLevelsFollowsAShiftOfEveryNeedSaid : Prop := fnLeastLevelsFollowsAShiftOfEveryNeedRow.holds Try.pinned (OpenSpec.ofChange fnLeastLevelsFollowsAShiftOfEveryNeedSpec)

/-- ITS FALSE NEIGHBOUR: 'it returns false'. Refute it at one input. -/
def fnLeastLevelsFollowsAShiftOfEveryNeedWrong : ChangeSpec := { name := "fnLeastLevelsFollowsAShiftOfEveryNeed", fn := fun _ => fun
  | [d1, d2, d3] => { results := [.lit (.bool false)], args := [d1, d2, d3] }
  | _ => none }
def FnLeastLevelsFollowsAShiftOfEveryNeedWrongFalsely : Prop := fnLeastLevelsFollowsAShiftOfEveryNeedRow.holds Try.pinned (OpenSpec.ofChange fnLeastLevelsFollowsAShiftOfEveryNeedWrong)

/-- 'zzlaws_root_b1.FnReadingListsDaysWithHistory': WHATEVER THE INPUT: true; the input reads as it did. -/
def fnReadingListsDaysWithHistorySpec : ChangeSpec := { name := "fnReadingListsDaysWithHistory", fn := fun _ => fun
  | [d1, d2, d3, d4, d5] => { results := [.lit (.bool true)], args := [d1, d2, d3, d4, d5] }
  | _ => none }
def fnReadingListsDaysWithHistoryRow : OpenClaim := { program := "qxb6614303a", sum := "a0762aee18ba58cea486165dc8d99d8a9dd0131a43d7b7db943e20f542374fcc", func := "example.com/glimpse24/glimpse24/zzlaws_root_b1.FnReadingListsDaysWithHistory", spec := "fnReadingListsDaysWithHistory", unfollowed := true, recurses := true, apart := false }
def FnReadingListsDaysWithHistorySaid : Prop := fnReadingListsDaysWithHistoryRow.holds Try.pinned (OpenSpec.ofChange fnReadingListsDaysWithHistorySpec)

/-- ITS FALSE NEIGHBOUR: 'it returns false'. Refute it at one input. -/
def fnReadingListsDaysWithHistoryWrong : ChangeSpec := { name := "fnReadingListsDaysWithHistory", fn := fun _ => fun
  | [d1, d2, d3, d4, d5] => { results := [.lit (.bool false)], args := [d1, d2, d3, d4, d5] }
  | _ => none }
def FnReadingListsDaysWithHistoryWrongFalsely : Prop := fnReadingListsDaysWithHistoryRow.holds Try.pinned (OpenSpec.ofChange fnReadingListsDaysWithHistoryWrong)

/-- 'zzlaws_root_b1.FnReadingReadsADayListedTwiceTwice': WHATEVER THE INPUT: true; the input reads as it did. -/
def fnReadingReadsADayListedTwiceTwiceSpec : ChangeSpec := { name := "fnReadingReadsADayListedTwiceTwice", fn := fun _ => fun
  | [d1, d2, d3, d4, d5] => { results := [.lit (.bool true)], args := [d1, d2, d3, d4, d5] }
  | _ => none }
def fnReadingReadsADayListedTwiceTwiceRow : OpenClaim := { program := "qxb6614303a", sum := "a0762aee18ba58cea486165dc8d99d8a9dd0131a43d7b7db943e20f542374fcc", func := "example.com/glimpse24/glimpse24/zzlaws_root_b1.FnReadingReadsADayListedTwiceTwice", spec := "fnReadingReadsADayListedTwiceTwice", unfollowed := true, recurses := true, apart := false }
def FnReadingReadsADayListedTwiceTwiceSaid : Prop := fnReadingReadsADayListedTwiceTwiceRow.holds Try.pinned (OpenSpec.ofChange fnReadingReadsADayListedTwiceTwiceSpec)

/-- ITS FALSE NEIGHBOUR: 'it returns false'. Refute it at one input. -/
def fnReadingReadsADayListedTwiceTwiceWrong : ChangeSpec := { name := "fnReadingReadsADayListedTwiceTwice", fn := fun _ => fun
  | [d1, d2, d3, d4, d5] => { results := [.lit (.bool false)], args := [d1, d2, d3, d4, d5] }
  | _ => none }
def FnReadingReadsADayListedTwiceTwiceWrongFalsely : Prop := fnReadingReadsADayListedTwiceTwiceRow.holds Try.pinned (OpenSpec.ofChange fnReadingReadsADayListedTwiceTwiceWrong)

end Rows
end Go.Proofs.Qxb6614303a

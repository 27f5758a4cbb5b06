/-
  No cell of these rows narrows 'for every input' (looked for: loops, veiled, ifaces, maps, wideKeys, modest, calm, conditions, laid).
  DERIVED. THE GIVEN ROWS OF THIS SEAT. 4 by the template 'for every input the law returns true; each argument reads behind the call as it read before'; 0 by the template 'total and deterministic' (their statements: Qxb6606004aTotals.lean).
  GIVEN WITH THE SEED: the statements are not yours to turn. If you find one false, say at which input.
  Laid BY PROGRAM, IN A SANDBOX (cutbox-rows.mjs): the forced cells as the released guide's own fill.sh prints them over the translation 52e462f8a5d973db… (all of the seat's roots in one cut). By AI agents, Wed Nov 11 2026. No macro, syntax, notation, axiom, sorry.
-/
import Derived.Test.Qxb6606004aChecked
import GoSem.Claim
import GoSem.ClaimJoined
import GoSem.ClaimMapViews
import Derived.JoinedTies
import Derived.KernelRfl
namespace Go.Proofs.Qxb6606004a
/- THE CELL 'sum', in the pinned program and in every row, IS THE sha256 OF THE DUMP (.gsa) THAT Qxb6606004aProg.lean LOADS. Nothing in Lean hashes anything: it is a label: what it is worth is what the hold of that sum in a sandbox is worth. -/
noncomputable def Try.pinned : Pinned := { name := "qxb6606004a", sum := "52e462f8a5d973db4a05c6a9ab1b453ee26253ec64f6813d9dffd6dd8a1eb886", checked := Try.checked }
namespace Rows
def none {H : Type} : Left H := { results := [], args := [] }

/-- 'zzlaws_internal_window_b1.FnSeriesStepAtCountsStepsAtOrBefore': WHATEVER THE INPUT: true; the input reads as it did. -/
def fnSeriesStepAtCountsStepsAtOrBeforeSpec : ChangeSpec := { name := "fnSeriesStepAtCountsStepsAtOrBefore", fn := fun _ => fun
  | [d1, d2, d3] => { results := [.lit (.bool true)], args := [d1, d2, d3] }
  | _ => none }
def fnSeriesStepAtCountsStepsAtOrBeforeRow : OpenClaim := { program := "qxb6606004a", sum := "52e462f8a5d973db4a05c6a9ab1b453ee26253ec64f6813d9dffd6dd8a1eb886", func := "example.com/tidemark/tidemark/zzlaws_internal_window_b1.FnSeriesStepAtCountsStepsAtOrBefore", spec := "fnSeriesStepAtCountsStepsAtOrBefore", unfollowed := true, recurses := true, apart := false }
def FnSeriesStepAtCountsStepsAtOrBeforeSaid : Prop := fnSeriesStepAtCountsStepsAtOrBeforeRow.holds Try.pinned (OpenSpec.ofChange fnSeriesStepAtCountsStepsAtOrBeforeSpec)

/-- ITS FALSE NEIGHBOUR: 'it returns false'. Refute it at one input. -/
def fnSeriesStepAtCountsStepsAtOrBeforeWrong : ChangeSpec := { name := "fnSeriesStepAtCountsStepsAtOrBefore", fn := fun _ => fun
  | [d1, d2, d3] => { results := [.lit (.bool false)], args := [d1, d2, d3] }
  | _ => none }
def FnSeriesStepAtCountsStepsAtOrBeforeWrongFalsely : Prop := fnSeriesStepAtCountsStepsAtOrBeforeRow.holds Try.pinned (OpenSpec.ofChange fnSeriesStepAtCountsStepsAtOrBeforeWrong)

/-- 'zzlaws_internal_window_b1.FnSeriesStepAtBracketsAndIsMonotone': WHATEVER THE INPUT: true; the input reads as it did. -/
def fnSeriesStepAtBracketsAndIsMonotoneSpec : ChangeSpec := { name := "fnSeriesStepAtBracketsAndIsMonotone", fn := fun _ => fun
  | [d1, d2, d3, d4] => { results := [.lit (.bool true)], args := [d1, d2, d3, d4] }
  | _ => none }
def fnSeriesStepAtBracketsAndIsMonotoneRow : OpenClaim := { program := "qxb6606004a", sum := "52e462f8a5d973db4a05c6a9ab1b453ee26253ec64f6813d9dffd6dd8a1eb886", func := "example.com/tidemark/tidemark/zzlaws_internal_window_b1.FnSeriesStepAtBracketsAndIsMonotone", spec := "fnSeriesStepAtBracketsAndIsMonotone", unfollowed := true, recurses := true, apart := false }
def FnSeriesStepAtBracketsAndIsMonotoneSaid : Prop := fnSeriesStepAtBracketsAndIsMonotoneRow.holds Try.pinned (OpenSpec.ofChange fnSeriesStepAtBracketsAndIsMonotoneSpec)

/-- ITS FALSE NEIGHBOUR: 'it returns false'. Refute it at one input. -/
def fnSeriesStepAtBracketsAndIsMonotoneWrong : ChangeSpec := { name := "fnSeriesStepAtBracketsAndIsMonotone", fn := fun _ => fun
  | [d1, d2, d3, d4] => { results := [.lit (.bool false)], args := [d1, d2, d3, d4] }
  | _ => none }
def FnSeriesStepAtBracketsAndIsMonotoneWrongFalsely : Prop := fnSeriesStepAtBracketsAndIsMonotoneRow.holds Try.pinned (OpenSpec.ofChange fnSeriesStepAtBracketsAndIsMonotoneWrong)

/-- 'zzlaws_internal_window_b1.FnArrivalsIndexCountsTimesBefore': WHATEVER THE INPUT: true; the input reads as it did. -/
def fnArrivalsIndexCountsTimesBeforeSpec : ChangeSpec := { name := "fnArrivalsIndexCountsTimesBefore", fn := fun _ => fun
  | [d1, d2, d3, d4] => { results := [.lit (.bool true)], args := [d1, d2, d3, d4] }
  | _ => none }
def fnArrivalsIndexCountsTimesBeforeRow : OpenClaim := { program := "qxb6606004a", sum := "52e462f8a5d973db4a05c6a9ab1b453ee26253ec64f6813d9dffd6dd8a1eb886", func := "example.com/tidemark/tidemark/zzlaws_internal_window_b1.FnArrivalsIndexCountsTimesBefore", spec := "fnArrivalsIndexCountsTimesBefore", unfollowed := true, recurses := true, apart := false }
def FnArrivalsIndexCountsTimesBeforeSaid : Prop := fnArrivalsIndexCountsTimesBeforeRow.holds Try.pinned (OpenSpec.ofChange fnArrivalsIndexCountsTimesBeforeSpec)

/-- ITS FALSE NEIGHBOUR: 'it returns false'. Refute it at one input. -/
def fnArrivalsIndexCountsTimesBeforeWrong : ChangeSpec := { name := "fnArrivalsIndexCountsTimesBefore", fn := fun _ => fun
  | [d1, d2, d3, d4] => { results := [.lit (.bool false)], args := [d1, d2, d3, d4] }
  | _ => none }
def FnArrivalsIndexCountsTimesBeforeWrongFalsely : Prop := fnArrivalsIndexCountsTimesBeforeRow.holds Try.pinned (OpenSpec.ofChange fnArrivalsIndexCountsTimesBeforeWrong)

/-- 'zzlaws_internal_window_b1.FnArrivalsIndexFindsEachRecordedTime': WHATEVER THE INPUT: true; the input reads as it did. -/
def fnArrivalsIndexFindsEachRecordedTimeSpec : ChangeSpec := { name := "fnArrivalsIndexFindsEachRecordedTime", fn := fun _ => fun
  | [d1, d2, d3] => { results := [.lit (.bool true)], args := [d1, d2, d3] }
  | _ => none }
def fnArrivalsIndexFindsEachRecordedTimeRow : OpenClaim := { program := "qxb6606004a", sum := "52e462f8a5d973db4a05c6a9ab1b453ee26253ec64f6813d9dffd6dd8a1eb886", func := "example.com/tidemark/tidemark/zzlaws_internal_window_b1.FnArrivalsIndexFindsEachRecordedTime", spec := "fnArrivalsIndexFindsEachRecordedTime", unfollowed := true, recurses := true, apart := false }
def FnArrivalsIndexFindsEachRecordedTimeSaid : Prop := fnArrivalsIndexFindsEachRecordedTimeRow.holds Try.pinned (OpenSpec.ofChange fnArrivalsIndexFindsEachRecordedTimeSpec)

/-- ITS FALSE NEIGHBOUR: 'it returns false'. Refute it at one input. -/
def fnArrivalsIndexFindsEachRecordedTimeWrong : ChangeSpec := { name := "fnArrivalsIndexFindsEachRecordedTime", fn := fun _ => fun
  | [d1, d2, d3] => { results := [.lit (.bool false)], args := [d1, d2, d3] }
  | _ => none }
def FnArrivalsIndexFindsEachRecordedTimeWrongFalsely : Prop := fnArrivalsIndexFindsEachRecordedTimeRow.holds Try.pinned (OpenSpec.ofChange fnArrivalsIndexFindsEachRecordedTimeWrong)

end Rows
end Go.Proofs.Qxb6606004a

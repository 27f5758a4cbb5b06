/-
  No cell of these rows narrows 'for every input' (looked for: loops, veiled, ifaces, maps, wideKeys, modest, calm, conditions, laid).
  DERIVED. THE GIVEN ROWS OF THIS SEAT. 4 by the template 'for every input the law returns true; each argument reads behind the call as it read before'; 0 by the template 'total and deterministic' (their statements: Qxb6605855aTotals.lean).
  GIVEN WITH THE SEED: the statements are not yours to turn. If you find one false, say at which input.
  Laid BY PROGRAM, IN A SANDBOX (cutbox-rows.mjs): the forced cells as the released guide's own fill.sh prints them over the translation cbe150aea6aa7c5e… (all of the seat's roots in one cut). By AI agents, Wed Nov 11 2026. No macro, syntax, notation, axiom, sorry.
-/
import Derived.Test.Qxb6605855aChecked
import GoSem.Claim
import GoSem.ClaimJoined
import GoSem.ClaimMapViews
import Derived.JoinedTies
import Derived.KernelRfl
namespace Go.Proofs.Qxb6605855a
/- THE CELL 'sum', in the pinned program and in every row, IS THE sha256 OF THE DUMP (.gsa) THAT Qxb6605855aProg.lean LOADS. Nothing in Lean hashes anything: it is a label: what it is worth is what the hold of that sum in a sandbox is worth. -/
noncomputable def Try.pinned : Pinned := { name := "qxb6605855a", sum := "cbe150aea6aa7c5e55d11b088cd9ceac76db8c2a07ce45b0a123dcc6b2ab19b9", checked := Try.checked }
namespace Rows
def none {H : Type} : Left H := { results := [], args := [] }

/-- 'zzlaws_internal_member_b1.FnCompareFromSwappedNegatesAndIgnoresTerm': WHATEVER THE INPUT: true; the input reads as it did. -/
def fnCompareFromSwappedNegatesAndIgnoresTermSpec : ChangeSpec := { name := "fnCompareFromSwappedNegatesAndIgnoresTerm", fn := fun _ => fun
  | [d1, d2, d3, d4] => { results := [.lit (.bool true)], args := [d1, d2, d3, d4] }
  | _ => none }
def fnCompareFromSwappedNegatesAndIgnoresTermRow : OpenClaim := { program := "qxb6605855a", sum := "cbe150aea6aa7c5e55d11b088cd9ceac76db8c2a07ce45b0a123dcc6b2ab19b9", func := "example.com/lockstep/lockstep/zzlaws_internal_member_b1.FnCompareFromSwappedNegatesAndIgnoresTerm", spec := "fnCompareFromSwappedNegatesAndIgnoresTerm", apart := false }
def FnCompareFromSwappedNegatesAndIgnoresTermSaid : Prop := fnCompareFromSwappedNegatesAndIgnoresTermRow.holds Try.pinned (OpenSpec.ofChange fnCompareFromSwappedNegatesAndIgnoresTermSpec)

/-- ITS FALSE NEIGHBOUR: 'it returns false'. Refute it at one input. -/
def fnCompareFromSwappedNegatesAndIgnoresTermWrong : ChangeSpec := { name := "fnCompareFromSwappedNegatesAndIgnoresTerm", fn := fun _ => fun
  | [d1, d2, d3, d4] => { results := [.lit (.bool false)], args := [d1, d2, d3, d4] }
  | _ => none }
def FnCompareFromSwappedNegatesAndIgnoresTermWrongFalsely : Prop := fnCompareFromSwappedNegatesAndIgnoresTermRow.holds Try.pinned (OpenSpec.ofChange fnCompareFromSwappedNegatesAndIgnoresTermWrong)

/-- 'zzlaws_internal_member_b1.FnGrainsGrowByOneForEachGrainAnAskWaits': WHATEVER THE INPUT: true; the input reads as it did. -/
def fnGrainsGrowByOneForEachGrainAnAskWaitsSpec : ChangeSpec := { name := "fnGrainsGrowByOneForEachGrainAnAskWaits", fn := fun _ => fun
  | [d1, d2, d3, d4, d5, d6, d7, d8, d9] => { results := [.lit (.bool true)], args := [d1, d2, d3, d4, d5, d6, d7, d8, d9] }
  | _ => none }
def fnGrainsGrowByOneForEachGrainAnAskWaitsRow : OpenClaim := { program := "qxb6605855a", sum := "cbe150aea6aa7c5e55d11b088cd9ceac76db8c2a07ce45b0a123dcc6b2ab19b9", func := "example.com/lockstep/lockstep/zzlaws_internal_member_b1.FnGrainsGrowByOneForEachGrainAnAskWaits", spec := "fnGrainsGrowByOneForEachGrainAnAskWaits", apart := false }
def FnGrainsGrowByOneForEachGrainAnAskWaitsSaid : Prop := fnGrainsGrowByOneForEachGrainAnAskWaitsRow.holds Try.pinned (OpenSpec.ofChange fnGrainsGrowByOneForEachGrainAnAskWaitsSpec)

/-- ITS FALSE NEIGHBOUR: 'it returns false'. Refute it at one input. -/
def fnGrainsGrowByOneForEachGrainAnAskWaitsWrong : ChangeSpec := { name := "fnGrainsGrowByOneForEachGrainAnAskWaits", fn := fun _ => fun
  | [d1, d2, d3, d4, d5, d6, d7, d8, d9] => { results := [.lit (.bool false)], args := [d1, d2, d3, d4, d5, d6, d7, d8, d9] }
  | _ => none }
def FnGrainsGrowByOneForEachGrainAnAskWaitsWrongFalsely : Prop := fnGrainsGrowByOneForEachGrainAnAskWaitsRow.holds Try.pinned (OpenSpec.ofChange fnGrainsGrowByOneForEachGrainAnAskWaitsWrong)

/-- 'zzlaws_internal_member_b1.FnCutKeepsExactlyTheFirstNPositions': WHATEVER THE INPUT: true; the input reads as it did. -/
def fnCutKeepsExactlyTheFirstNPositionsSpec : ChangeSpec := { name := "fnCutKeepsExactlyTheFirstNPositions", fn := fun _ => fun
  | [d1, d2, d3, d4, d5] => { results := [.lit (.bool true)], args := [d1, d2, d3, d4, d5] }
  | _ => none }
def fnCutKeepsExactlyTheFirstNPositionsRow : OpenClaim := { program := "qxb6605855a", sum := "cbe150aea6aa7c5e55d11b088cd9ceac76db8c2a07ce45b0a123dcc6b2ab19b9", func := "example.com/lockstep/lockstep/zzlaws_internal_member_b1.FnCutKeepsExactlyTheFirstNPositions", spec := "fnCutKeepsExactlyTheFirstNPositions", unfollowed := true, recurses := true, apart := false }
def FnCutKeepsExactlyTheFirstNPositionsSaid : Prop := fnCutKeepsExactlyTheFirstNPositionsRow.holds Try.pinned (OpenSpec.ofChange fnCutKeepsExactlyTheFirstNPositionsSpec)

/-- ITS FALSE NEIGHBOUR: 'it returns false'. Refute it at one input. -/
def fnCutKeepsExactlyTheFirstNPositionsWrong : ChangeSpec := { name := "fnCutKeepsExactlyTheFirstNPositions", fn := fun _ => fun
  | [d1, d2, d3, d4, d5] => { results := [.lit (.bool false)], args := [d1, d2, d3, d4, d5] }
  | _ => none }
def FnCutKeepsExactlyTheFirstNPositionsWrongFalsely : Prop := fnCutKeepsExactlyTheFirstNPositionsRow.holds Try.pinned (OpenSpec.ofChange fnCutKeepsExactlyTheFirstNPositionsWrong)

/-- 'zzlaws_internal_member_b1.FnCutTwiceIsCutOnceToTheShorter': WHATEVER THE INPUT: true; the input reads as it did. -/
def fnCutTwiceIsCutOnceToTheShorterSpec : ChangeSpec := { name := "fnCutTwiceIsCutOnceToTheShorter", fn := fun _ => fun
  | [d1, d2, d3, d4, d5, d6] => { results := [.lit (.bool true)], args := [d1, d2, d3, d4, d5, d6] }
  | _ => none }
def fnCutTwiceIsCutOnceToTheShorterRow : OpenClaim := { program := "qxb6605855a", sum := "cbe150aea6aa7c5e55d11b088cd9ceac76db8c2a07ce45b0a123dcc6b2ab19b9", func := "example.com/lockstep/lockstep/zzlaws_internal_member_b1.FnCutTwiceIsCutOnceToTheShorter", spec := "fnCutTwiceIsCutOnceToTheShorter", unfollowed := true, recurses := true, apart := false }
def FnCutTwiceIsCutOnceToTheShorterSaid : Prop := fnCutTwiceIsCutOnceToTheShorterRow.holds Try.pinned (OpenSpec.ofChange fnCutTwiceIsCutOnceToTheShorterSpec)

/-- ITS FALSE NEIGHBOUR: 'it returns false'. Refute it at one input. -/
def fnCutTwiceIsCutOnceToTheShorterWrong : ChangeSpec := { name := "fnCutTwiceIsCutOnceToTheShorter", fn := fun _ => fun
  | [d1, d2, d3, d4, d5, d6] => { results := [.lit (.bool false)], args := [d1, d2, d3, d4, d5, d6] }
  | _ => none }
def FnCutTwiceIsCutOnceToTheShorterWrongFalsely : Prop := fnCutTwiceIsCutOnceToTheShorterRow.holds Try.pinned (OpenSpec.ofChange fnCutTwiceIsCutOnceToTheShorterWrong)

end Rows
end Go.Proofs.Qxb6605855a

/-
  No cell of these rows narrows 'for every input' (looked for: loops, veiled, ifaces, maps, wideKeys, modest, calm, conditions, laid).
  DERIVED. THE GIVEN ROWS OF THIS SEAT. 3 by the template 'for every input the law returns true; each argument reads behind the call as it read before'; 0 by the template 'total and deterministic' (their statements: Qxb6617282aTotals.lean).
  GIVEN WITH THE SEED: the statements are not yours to turn. If you find one false, say at which input.
  Laid BY PROGRAM, IN A SANDBOX (cutbox-rows.mjs): the forced cells as the released guide's own fill.sh prints them over the translation 8f448d2788688383… (all of the seat's roots in one cut). By AI agents, Wed Nov 11 2026. No macro, syntax, notation, axiom, sorry.
-/
import Derived.Test.Qxb6617282aChecked
import GoSem.Claim
import GoSem.ClaimJoined
import GoSem.ClaimMapViews
import Derived.JoinedTies
import Derived.KernelRfl
namespace Go.Proofs.Qxb6617282a
/- THE CELL 'sum', in the pinned program and in every row, IS THE sha256 OF THE DUMP (.gsa) THAT Qxb6617282aProg.lean LOADS. Nothing in Lean hashes anything: it is a label: what it is worth is what the hold of that sum in a sandbox is worth. -/
noncomputable def Try.pinned : Pinned := { name := "qxb6617282a", sum := "8f448d2788688383874c762bd3cfef0895892cdfe6df7d411666effac66ce2f5", checked := Try.checked }
namespace Rows
def none {H : Type} : Left H := { results := [], args := [] }

/-- 'zzlaws_internal_api_b1.FnHeldOnSplitsAtAnyCut': WHATEVER THE INPUT: true; the input reads as it did. -/
def fnHeldOnSplitsAtAnyCutSpec : ChangeSpec := { name := "fnHeldOnSplitsAtAnyCut", fn := fun _ => fun
  | [d1, d2, d3, d4, d5] => { results := [.lit (.bool true)], args := [d1, d2, d3, d4, d5] }
  | _ => none }
def fnHeldOnSplitsAtAnyCutRow : OpenClaim := { program := "qxb6617282a", sum := "8f448d2788688383874c762bd3cfef0895892cdfe6df7d411666effac66ce2f5", func := "example.com/kvorum/kvorum/zzlaws_internal_api_b1.FnHeldOnSplitsAtAnyCut", spec := "fnHeldOnSplitsAtAnyCut", apart := false }
def FnHeldOnSplitsAtAnyCutSaid : Prop := fnHeldOnSplitsAtAnyCutRow.holds Try.pinned (OpenSpec.ofChange fnHeldOnSplitsAtAnyCutSpec)

/-- ITS FALSE NEIGHBOUR: 'it returns false'. Refute it at one input. -/
def fnHeldOnSplitsAtAnyCutWrong : ChangeSpec := { name := "fnHeldOnSplitsAtAnyCut", fn := fun _ => fun
  | [d1, d2, d3, d4, d5] => { results := [.lit (.bool false)], args := [d1, d2, d3, d4, d5] }
  | _ => none }
def FnHeldOnSplitsAtAnyCutWrongFalsely : Prop := fnHeldOnSplitsAtAnyCutRow.holds Try.pinned (OpenSpec.ofChange fnHeldOnSplitsAtAnyCutWrong)

/-- 'zzlaws_internal_api_b1.FnPassScriptEndsOnLastRun': WHATEVER THE INPUT: true; the input reads as it did. -/
def fnPassScriptEndsOnLastRunSpec : ChangeSpec := { name := "fnPassScriptEndsOnLastRun", fn := fun _ => fun
  | [d1, d2, d3] => { results := [.lit (.bool true)], args := [d1, d2, d3] }
  | _ => none }
def fnPassScriptEndsOnLastRunRow : OpenClaim := { program := "qxb6617282a", sum := "8f448d2788688383874c762bd3cfef0895892cdfe6df7d411666effac66ce2f5", func := "example.com/kvorum/kvorum/zzlaws_internal_api_b1.FnPassScriptEndsOnLastRun", spec := "fnPassScriptEndsOnLastRun", apart := false }
def FnPassScriptEndsOnLastRunSaid : Prop := fnPassScriptEndsOnLastRunRow.holds Try.pinned (OpenSpec.ofChange fnPassScriptEndsOnLastRunSpec)

/-- ITS FALSE NEIGHBOUR: 'it returns false'. Refute it at one input. -/
def fnPassScriptEndsOnLastRunWrong : ChangeSpec := { name := "fnPassScriptEndsOnLastRun", fn := fun _ => fun
  | [d1, d2, d3] => { results := [.lit (.bool false)], args := [d1, d2, d3] }
  | _ => none }
def FnPassScriptEndsOnLastRunWrongFalsely : Prop := fnPassScriptEndsOnLastRunRow.holds Try.pinned (OpenSpec.ofChange fnPassScriptEndsOnLastRunWrong)

/-- 'zzlaws_internal_api_b1.FnPassPositionCountsEventsSeen': WHATEVER THE INPUT: true; the input reads as it did. -/
def fnPassPositionCountsEventsSeenSpec : ChangeSpec := { name := "fnPassPositionCountsEventsSeen", fn := fun _ => fun
  | [d1, d2] => { results := [.lit (.bool true)], args := [d1, d2] }
  | _ => none }
def fnPassPositionCountsEventsSeenRow : OpenClaim := { program := "qxb6617282a", sum := "8f448d2788688383874c762bd3cfef0895892cdfe6df7d411666effac66ce2f5", func := "example.com/kvorum/kvorum/zzlaws_internal_api_b1.FnPassPositionCountsEventsSeen", spec := "fnPassPositionCountsEventsSeen", apart := false }
def FnPassPositionCountsEventsSeenSaid : Prop := fnPassPositionCountsEventsSeenRow.holds Try.pinned (OpenSpec.ofChange fnPassPositionCountsEventsSeenSpec)

/-- ITS FALSE NEIGHBOUR: 'it returns false'. Refute it at one input. -/
def fnPassPositionCountsEventsSeenWrong : ChangeSpec := { name := "fnPassPositionCountsEventsSeen", fn := fun _ => fun
  | [d1, d2] => { results := [.lit (.bool false)], args := [d1, d2] }
  | _ => none }
def FnPassPositionCountsEventsSeenWrongFalsely : Prop := fnPassPositionCountsEventsSeenRow.holds Try.pinned (OpenSpec.ofChange fnPassPositionCountsEventsSeenWrong)

end Rows
end Go.Proofs.Qxb6617282a

/-
  No cell of these rows narrows 'for every input' (looked for: loops, veiled, ifaces, maps, wideKeys, modest, calm, conditions, laid).
  DERIVED. THE GIVEN ROWS OF THIS SEAT. 2 by the template 'for every input the law returns true; each argument reads behind the call as it read before'; 0 by the template 'total and deterministic' (their statements: Qxb6614225aTotals.lean).
  GIVEN WITH THE SEED: the statements are not yours to turn. If you find one false, say at which input.
  Laid BY PROGRAM, IN A SANDBOX (cutbox-rows.mjs): the forced cells as the released guide's own fill.sh prints them over the translation b7724a218e9cba27… (all of the seat's roots in one cut). By AI agents, Wed Nov 11 2026. No macro, syntax, notation, axiom, sorry.
-/
import Derived.Test.Qxb6614225aChecked
import GoSem.Claim
import GoSem.ClaimJoined
import GoSem.ClaimMapViews
import Derived.JoinedTies
import Derived.KernelRfl
namespace Go.Proofs.Qxb6614225a
/- THE CELL 'sum', in the pinned program and in every row, IS THE sha256 OF THE DUMP (.gsa) THAT Qxb6614225aProg.lean LOADS. Nothing in Lean hashes anything: it is a label: what it is worth is what the hold of that sum in a sandbox is worth. -/
noncomputable def Try.pinned : Pinned := { name := "qxb6614225a", sum := "b7724a218e9cba271c9cbc4f3fba06d1c8a2c3830dc2c59402d4de0de34f184a", checked := Try.checked }
namespace Rows
def none {H : Type} : Left H := { results := [], args := [] }

/-- 'zzlaws_root_b1.FnGlobalQueuePushKeepsArrivalOrder': WHATEVER THE INPUT: true; the input reads as it did. -/
def fnGlobalQueuePushKeepsArrivalOrderSpec : ChangeSpec := { name := "fnGlobalQueuePushKeepsArrivalOrder", fn := fun _ => fun
  | [d] => { results := [.lit (.bool true)], args := [d] }
  | _ => none }
def fnGlobalQueuePushKeepsArrivalOrderRow : OpenClaim := { program := "qxb6614225a", sum := "b7724a218e9cba271c9cbc4f3fba06d1c8a2c3830dc2c59402d4de0de34f184a", func := "example.com/coroutine-dispatcher/coroutine-dispatcher/zzlaws_root_b1.FnGlobalQueuePushKeepsArrivalOrder", spec := "fnGlobalQueuePushKeepsArrivalOrder", inPlace := ["sync/atomic.AddInt64", "sync/atomic.LoadInt64"], apart := false }
def FnGlobalQueuePushKeepsArrivalOrderSaid : Prop := fnGlobalQueuePushKeepsArrivalOrderRow.holds Try.pinned (OpenSpec.ofChange fnGlobalQueuePushKeepsArrivalOrderSpec)

/-- ITS FALSE NEIGHBOUR: 'it returns false'. Refute it at one input. -/
def fnGlobalQueuePushKeepsArrivalOrderWrong : ChangeSpec := { name := "fnGlobalQueuePushKeepsArrivalOrder", fn := fun _ => fun
  | [d] => { results := [.lit (.bool false)], args := [d] }
  | _ => none }
def FnGlobalQueuePushKeepsArrivalOrderWrongFalsely : Prop := fnGlobalQueuePushKeepsArrivalOrderRow.holds Try.pinned (OpenSpec.ofChange fnGlobalQueuePushKeepsArrivalOrderWrong)

/-- 'zzlaws_root_b1.FnGlobalQueuePushStepByStep': WHATEVER THE INPUT: true; the input reads as it did. -/
def fnGlobalQueuePushStepByStepSpec : ChangeSpec := { name := "fnGlobalQueuePushStepByStep", fn := fun _ => fun
  | [d] => { results := [.lit (.bool true)], args := [d] }
  | _ => none }
def fnGlobalQueuePushStepByStepRow : OpenClaim := { program := "qxb6614225a", sum := "b7724a218e9cba271c9cbc4f3fba06d1c8a2c3830dc2c59402d4de0de34f184a", func := "example.com/coroutine-dispatcher/coroutine-dispatcher/zzlaws_root_b1.FnGlobalQueuePushStepByStep", spec := "fnGlobalQueuePushStepByStep", inPlace := ["sync/atomic.AddInt64", "sync/atomic.LoadInt64"], apart := false }
def FnGlobalQueuePushStepByStepSaid : Prop := fnGlobalQueuePushStepByStepRow.holds Try.pinned (OpenSpec.ofChange fnGlobalQueuePushStepByStepSpec)

/-- ITS FALSE NEIGHBOUR: 'it returns false'. Refute it at one input. -/
def fnGlobalQueuePushStepByStepWrong : ChangeSpec := { name := "fnGlobalQueuePushStepByStep", fn := fun _ => fun
  | [d] => { results := [.lit (.bool false)], args := [d] }
  | _ => none }
def FnGlobalQueuePushStepByStepWrongFalsely : Prop := fnGlobalQueuePushStepByStepRow.holds Try.pinned (OpenSpec.ofChange fnGlobalQueuePushStepByStepWrong)

end Rows
end Go.Proofs.Qxb6614225a

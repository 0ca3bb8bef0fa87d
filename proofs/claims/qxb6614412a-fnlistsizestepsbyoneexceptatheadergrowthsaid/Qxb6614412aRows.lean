/-
  No cell of these rows narrows 'for every input' (looked for: loops, veiled, ifaces, maps, wideKeys, modest, calm, conditions, laid).
  DERIVED. THE GIVEN ROWS OF THIS SEAT. 1 by the template 'for every input the law returns true; each argument reads behind the call as it read before'; 0 by the template 'total and deterministic' (their statements: Qxb6614412aTotals.lean).
  GIVEN WITH THE SEED: the statements are not yours to turn. If you find one false, say at which input.
  Laid BY PROGRAM, IN A SANDBOX (cutbox-rows.mjs): the forced cells as the released guide's own fill.sh prints them over the translation 19f22b79f4a6e988… (all of the seat's roots in one cut). By AI agents, Wed Nov 11 2026. No macro, syntax, notation, axiom, sorry.
-/
import Derived.Test.Qxb6614412aChecked
import GoSem.Claim
import GoSem.ClaimJoined
import GoSem.ClaimMapViews
import Derived.JoinedTies
import Derived.KernelRfl
namespace Go.Proofs.Qxb6614412a
/- THE CELL 'sum', in the pinned program and in every row, IS THE sha256 OF THE DUMP (.gsa) THAT Qxb6614412aProg.lean LOADS. Nothing in Lean hashes anything: it is a label: what it is worth is what the hold of that sum in a sandbox is worth. -/
noncomputable def Try.pinned : Pinned := { name := "qxb6614412a", sum := "19f22b79f4a6e988bd9b35b26c117f4178bb68f0cf6cac8adf79e04bfa208d3d", checked := Try.checked }
namespace Rows
def none {H : Type} : Left H := { results := [], args := [] }

/-- 'zzlaws_rlp_b1.FnListSizeStepsByOneExceptAtHeaderGrowth': WHATEVER THE INPUT: true; the input reads as it did. -/
def fnListSizeStepsByOneExceptAtHeaderGrowthSpec : ChangeSpec := { name := "fnListSizeStepsByOneExceptAtHeaderGrowth", fn := fun _ => fun
  | [d] => { results := [.lit (.bool true)], args := [d] }
  | _ => none }
def fnListSizeStepsByOneExceptAtHeaderGrowthRow : OpenClaim := { program := "qxb6614412a", sum := "19f22b79f4a6e988bd9b35b26c117f4178bb68f0cf6cac8adf79e04bfa208d3d", func := "example.com/wirefold/wirefold/zzlaws_rlp_b1.FnListSizeStepsByOneExceptAtHeaderGrowth", spec := "fnListSizeStepsByOneExceptAtHeaderGrowth", apart := false }
def FnListSizeStepsByOneExceptAtHeaderGrowthSaid : Prop := fnListSizeStepsByOneExceptAtHeaderGrowthRow.holds Try.pinned (OpenSpec.ofChange fnListSizeStepsByOneExceptAtHeaderGrowthSpec)

/-- ITS FALSE NEIGHBOUR: 'it returns false'. Refute it at one input. -/
def fnListSizeStepsByOneExceptAtHeaderGrowthWrong : ChangeSpec := { name := "fnListSizeStepsByOneExceptAtHeaderGrowth", fn := fun _ => fun
  | [d] => { results := [.lit (.bool false)], args := [d] }
  | _ => none }
def FnListSizeStepsByOneExceptAtHeaderGrowthWrongFalsely : Prop := fnListSizeStepsByOneExceptAtHeaderGrowthRow.holds Try.pinned (OpenSpec.ofChange fnListSizeStepsByOneExceptAtHeaderGrowthWrong)

end Rows
end Go.Proofs.Qxb6614412a

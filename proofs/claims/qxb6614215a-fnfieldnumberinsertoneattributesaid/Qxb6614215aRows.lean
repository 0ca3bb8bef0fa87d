/-
  No cell of these rows narrows 'for every input' (looked for: loops, veiled, ifaces, maps, wideKeys, modest, calm, conditions, laid).
  DERIVED. THE GIVEN ROWS OF THIS SEAT. 2 by the template 'for every input the law returns true; each argument reads behind the call as it read before'; 0 by the template 'total and deterministic' (their statements: Qxb6614215aTotals.lean).
  GIVEN WITH THE SEED: the statements are not yours to turn. If you find one false, say at which input.
  Laid BY PROGRAM, IN A SANDBOX (cutbox-rows.mjs): the forced cells as the released guide's own fill.sh prints them over the translation 7a42ff6ac2d2ea2a… (all of the seat's roots in one cut). By AI agents, Wed Nov 11 2026. No macro, syntax, notation, axiom, sorry.
-/
import Derived.Test.Qxb6614215aChecked
import GoSem.Claim
import GoSem.ClaimJoined
import GoSem.ClaimMapViews
import Derived.JoinedTies
import Derived.KernelRfl
namespace Go.Proofs.Qxb6614215a
/- THE CELL 'sum', in the pinned program and in every row, IS THE sha256 OF THE DUMP (.gsa) THAT Qxb6614215aProg.lean LOADS. Nothing in Lean hashes anything: it is a label: what it is worth is what the hold of that sum in a sandbox is worth. -/
noncomputable def Try.pinned : Pinned := { name := "qxb6614215a", sum := "7a42ff6ac2d2ea2a2fa8846356ab935649e83be69c3009d5f09c51f2a8846a74", checked := Try.checked }
namespace Rows
def none {H : Type} : Left H := { results := [], args := [] }

/-- 'zzlaws_internal_expr_b1.FnFieldNumberInsertOneAttribute': WHATEVER THE INPUT: true; the input reads as it did. -/
def fnFieldNumberInsertOneAttributeSpec : ChangeSpec := { name := "fnFieldNumberInsertOneAttribute", fn := fun _ => fun
  | [d1, d2, d3] => { results := [.lit (.bool true)], args := [d1, d2, d3] }
  | _ => none }
def fnFieldNumberInsertOneAttributeRow : OpenClaim := { program := "qxb6614215a", sum := "7a42ff6ac2d2ea2a2fa8846356ab935649e83be69c3009d5f09c51f2a8846a74", func := "example.com/duplex/duplex/zzlaws_internal_expr_b1.FnFieldNumberInsertOneAttribute", spec := "fnFieldNumberInsertOneAttribute", apart := false }
def FnFieldNumberInsertOneAttributeSaid : Prop := fnFieldNumberInsertOneAttributeRow.holds Try.pinned (OpenSpec.ofChange fnFieldNumberInsertOneAttributeSpec)

/-- ITS FALSE NEIGHBOUR: 'it returns false'. Refute it at one input. -/
def fnFieldNumberInsertOneAttributeWrong : ChangeSpec := { name := "fnFieldNumberInsertOneAttribute", fn := fun _ => fun
  | [d1, d2, d3] => { results := [.lit (.bool false)], args := [d1, d2, d3] }
  | _ => none }
def FnFieldNumberInsertOneAttributeWrongFalsely : Prop := fnFieldNumberInsertOneAttributeRow.holds Try.pinned (OpenSpec.ofChange fnFieldNumberInsertOneAttributeWrong)

/-- 'zzlaws_internal_expr_b1.FnFieldNumberJoinAtAnyCut': WHATEVER THE INPUT: true; the input reads as it did. -/
def fnFieldNumberJoinAtAnyCutSpec : ChangeSpec := { name := "fnFieldNumberJoinAtAnyCut", fn := fun _ => fun
  | [d1, d2] => { results := [.lit (.bool true)], args := [d1, d2] }
  | _ => none }
def fnFieldNumberJoinAtAnyCutRow : OpenClaim := { program := "qxb6614215a", sum := "7a42ff6ac2d2ea2a2fa8846356ab935649e83be69c3009d5f09c51f2a8846a74", func := "example.com/duplex/duplex/zzlaws_internal_expr_b1.FnFieldNumberJoinAtAnyCut", spec := "fnFieldNumberJoinAtAnyCut", apart := false }
def FnFieldNumberJoinAtAnyCutSaid : Prop := fnFieldNumberJoinAtAnyCutRow.holds Try.pinned (OpenSpec.ofChange fnFieldNumberJoinAtAnyCutSpec)

/-- ITS FALSE NEIGHBOUR: 'it returns false'. Refute it at one input. -/
def fnFieldNumberJoinAtAnyCutWrong : ChangeSpec := { name := "fnFieldNumberJoinAtAnyCut", fn := fun _ => fun
  | [d1, d2] => { results := [.lit (.bool false)], args := [d1, d2] }
  | _ => none }
def FnFieldNumberJoinAtAnyCutWrongFalsely : Prop := fnFieldNumberJoinAtAnyCutRow.holds Try.pinned (OpenSpec.ofChange fnFieldNumberJoinAtAnyCutWrong)

end Rows
end Go.Proofs.Qxb6614215a

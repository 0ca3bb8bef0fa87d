/-
  No cell of these rows narrows 'for every input' (looked for: loops, veiled, ifaces, maps, wideKeys, modest, calm, conditions, laid).
  DERIVED. THE GIVEN ROWS OF THIS SEAT. 3 by the template 'for every input the law returns true; each argument reads behind the call as it read before'; 0 by the template 'total and deterministic' (their statements: Qxb6614307aTotals.lean).
  GIVEN WITH THE SEED: the statements are not yours to turn. If you find one false, say at which input.
  Laid BY PROGRAM, IN A SANDBOX (cutbox-rows.mjs): the forced cells as the released guide's own fill.sh prints them over the translation b91578b9730530d8… (all of the seat's roots in one cut). By AI agents, Wed Nov 11 2026. No macro, syntax, notation, axiom, sorry.
-/
import Derived.Test.Qxb6614307aChecked
import GoSem.Claim
import GoSem.ClaimJoined
import GoSem.ClaimMapViews
import Derived.JoinedTies
import Derived.KernelRfl
namespace Go.Proofs.Qxb6614307a
/- THE CELL 'sum', in the pinned program and in every row, IS THE sha256 OF THE DUMP (.gsa) THAT Qxb6614307aProg.lean LOADS. Nothing in Lean hashes anything: it is a label: what it is worth is what the hold of that sum in a sandbox is worth. -/
noncomputable def Try.pinned : Pinned := { name := "qxb6614307a", sum := "b91578b9730530d818f7a894992f2b3dfa30e8fa91a5cb9cc40256a600e8ee22", checked := Try.checked }
namespace Rows
def none {H : Type} : Left H := { results := [], args := [] }

/-- 'zzlaws_root_b1.FnLogRecordBatchReadsAsItsRecordsAlone': WHATEVER THE INPUT: true; the input reads as it did. -/
def fnLogRecordBatchReadsAsItsRecordsAloneSpec : ChangeSpec := { name := "fnLogRecordBatchReadsAsItsRecordsAlone", fn := fun _ => fun
  | [d1, d2] => { results := [.lit (.bool true)], args := [d1, d2] }
  | _ => none }
def fnLogRecordBatchReadsAsItsRecordsAloneRow : OpenClaim := { program := "qxb6614307a", sum := "b91578b9730530d818f7a894992f2b3dfa30e8fa91a5cb9cc40256a600e8ee22", func := "example.com/cohort-gate/cohort-gate/zzlaws_root_b1.FnLogRecordBatchReadsAsItsRecordsAlone", spec := "fnLogRecordBatchReadsAsItsRecordsAlone", apart := false }
def FnLogRecordBatchReadsAsItsRecordsAloneSaid : Prop := fnLogRecordBatchReadsAsItsRecordsAloneRow.holds Try.pinned (OpenSpec.ofChange fnLogRecordBatchReadsAsItsRecordsAloneSpec)

/-- ITS FALSE NEIGHBOUR: 'it returns false'. Refute it at one input. -/
def fnLogRecordBatchReadsAsItsRecordsAloneWrong : ChangeSpec := { name := "fnLogRecordBatchReadsAsItsRecordsAlone", fn := fun _ => fun
  | [d1, d2] => { results := [.lit (.bool false)], args := [d1, d2] }
  | _ => none }
def FnLogRecordBatchReadsAsItsRecordsAloneWrongFalsely : Prop := fnLogRecordBatchReadsAsItsRecordsAloneRow.holds Try.pinned (OpenSpec.ofChange fnLogRecordBatchReadsAsItsRecordsAloneWrong)

/-- 'zzlaws_root_b1.FnLogRecordRefusesChangeBesideBatch': WHATEVER THE INPUT: true; the input reads as it did. -/
def fnLogRecordRefusesChangeBesideBatchSpec : ChangeSpec := { name := "fnLogRecordRefusesChangeBesideBatch", fn := fun _ => fun
  | [d1, d2, d3, d4, d5, d6] => { results := [.lit (.bool true)], args := [d1, d2, d3, d4, d5, d6] }
  | _ => none }
def fnLogRecordRefusesChangeBesideBatchRow : OpenClaim := { program := "qxb6614307a", sum := "b91578b9730530d818f7a894992f2b3dfa30e8fa91a5cb9cc40256a600e8ee22", func := "example.com/cohort-gate/cohort-gate/zzlaws_root_b1.FnLogRecordRefusesChangeBesideBatch", spec := "fnLogRecordRefusesChangeBesideBatch", apart := false }
def FnLogRecordRefusesChangeBesideBatchSaid : Prop := fnLogRecordRefusesChangeBesideBatchRow.holds Try.pinned (OpenSpec.ofChange fnLogRecordRefusesChangeBesideBatchSpec)

/-- ITS FALSE NEIGHBOUR: 'it returns false'. Refute it at one input. -/
def fnLogRecordRefusesChangeBesideBatchWrong : ChangeSpec := { name := "fnLogRecordRefusesChangeBesideBatch", fn := fun _ => fun
  | [d1, d2, d3, d4, d5, d6] => { results := [.lit (.bool false)], args := [d1, d2, d3, d4, d5, d6] }
  | _ => none }
def FnLogRecordRefusesChangeBesideBatchWrongFalsely : Prop := fnLogRecordRefusesChangeBesideBatchRow.holds Try.pinned (OpenSpec.ofChange fnLogRecordRefusesChangeBesideBatchWrong)

/-- 'zzlaws_root_b1.FnRecordedLatestIsGreatestAtAnyCut': WHATEVER THE INPUT: true; the input reads as it did. -/
def fnRecordedLatestIsGreatestAtAnyCutSpec : ChangeSpec := { name := "fnRecordedLatestIsGreatestAtAnyCut", fn := fun _ => fun
  | [d1, d2, d3] => { results := [.lit (.bool true)], args := [d1, d2, d3] }
  | _ => none }
def fnRecordedLatestIsGreatestAtAnyCutRow : OpenClaim := { program := "qxb6614307a", sum := "b91578b9730530d818f7a894992f2b3dfa30e8fa91a5cb9cc40256a600e8ee22", func := "example.com/cohort-gate/cohort-gate/zzlaws_root_b1.FnRecordedLatestIsGreatestAtAnyCut", spec := "fnRecordedLatestIsGreatestAtAnyCut", apart := false }
def FnRecordedLatestIsGreatestAtAnyCutSaid : Prop := fnRecordedLatestIsGreatestAtAnyCutRow.holds Try.pinned (OpenSpec.ofChange fnRecordedLatestIsGreatestAtAnyCutSpec)

/-- ITS FALSE NEIGHBOUR: 'it returns false'. Refute it at one input. -/
def fnRecordedLatestIsGreatestAtAnyCutWrong : ChangeSpec := { name := "fnRecordedLatestIsGreatestAtAnyCut", fn := fun _ => fun
  | [d1, d2, d3] => { results := [.lit (.bool false)], args := [d1, d2, d3] }
  | _ => none }
def FnRecordedLatestIsGreatestAtAnyCutWrongFalsely : Prop := fnRecordedLatestIsGreatestAtAnyCutRow.holds Try.pinned (OpenSpec.ofChange fnRecordedLatestIsGreatestAtAnyCutWrong)

end Rows
end Go.Proofs.Qxb6614307a

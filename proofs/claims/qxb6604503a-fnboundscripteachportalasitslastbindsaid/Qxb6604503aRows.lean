/-
  No cell of these rows narrows 'for every input' (looked for: loops, veiled, ifaces, maps, wideKeys, modest, calm, conditions, laid).
  DERIVED. THE GIVEN ROWS OF THIS SEAT. 4 by the template 'for every input the law returns true; each argument reads behind the call as it read before'; 0 by the template 'total and deterministic' (their statements: Qxb6604503aTotals.lean).
  GIVEN WITH THE SEED: the statements are not yours to turn. If you find one false, say at which input.
  Laid BY PROGRAM, IN A SANDBOX (cutbox-rows.mjs): the forced cells as the released guide's own fill.sh prints them over the translation 44eb6f9aae56b251… (all of the seat's roots in one cut). By AI agents, Wed Nov 11 2026. No macro, syntax, notation, axiom, sorry.
-/
import Derived.Test.Qxb6604503aChecked
import GoSem.Claim
import GoSem.ClaimJoined
import GoSem.ClaimMapViews
import Derived.JoinedTies
import Derived.KernelRfl
namespace Go.Proofs.Qxb6604503a
/- THE CELL 'sum', in the pinned program and in every row, IS THE sha256 OF THE DUMP (.gsa) THAT Qxb6604503aProg.lean LOADS. Nothing in Lean hashes anything: it is a label: what it is worth is what the hold of that sum in a sandbox is worth. -/
noncomputable def Try.pinned : Pinned := { name := "qxb6604503a", sum := "44eb6f9aae56b251b581a3f2b4524bc4442c493040fbe99fd02f44342d1426f1", checked := Try.checked }
namespace Rows
def none {H : Type} : Left H := { results := [], args := [] }

/-- 'zzlaws_internal_proxy_b1.FnFirstSeqCountsBackFromExpected': WHATEVER THE INPUT: true; the input reads as it did. -/
def fnFirstSeqCountsBackFromExpectedSpec : ChangeSpec := { name := "fnFirstSeqCountsBackFromExpected", fn := fun _ => fun
  | [d1, d2, d3] => { results := [.lit (.bool true)], args := [d1, d2, d3] }
  | _ => none }
def fnFirstSeqCountsBackFromExpectedRow : OpenClaim := { program := "qxb6604503a", sum := "44eb6f9aae56b251b581a3f2b4524bc4442c493040fbe99fd02f44342d1426f1", func := "example.com/portalis/portalis/zzlaws_internal_proxy_b1.FnFirstSeqCountsBackFromExpected", spec := "fnFirstSeqCountsBackFromExpected", apart := false }
def FnFirstSeqCountsBackFromExpectedSaid : Prop := fnFirstSeqCountsBackFromExpectedRow.holds Try.pinned (OpenSpec.ofChange fnFirstSeqCountsBackFromExpectedSpec)

/-- ITS FALSE NEIGHBOUR: 'it returns false'. Refute it at one input. -/
def fnFirstSeqCountsBackFromExpectedWrong : ChangeSpec := { name := "fnFirstSeqCountsBackFromExpected", fn := fun _ => fun
  | [d1, d2, d3] => { results := [.lit (.bool false)], args := [d1, d2, d3] }
  | _ => none }
def FnFirstSeqCountsBackFromExpectedWrongFalsely : Prop := fnFirstSeqCountsBackFromExpectedRow.holds Try.pinned (OpenSpec.ofChange fnFirstSeqCountsBackFromExpectedWrong)

/-- 'zzlaws_internal_proxy_b1.FnFirstSeqIsLeastOutstanding': WHATEVER THE INPUT: true; the input reads as it did. -/
def fnFirstSeqIsLeastOutstandingSpec : ChangeSpec := { name := "fnFirstSeqIsLeastOutstanding", fn := fun _ => fun
  | [d1, d2, d3] => { results := [.lit (.bool true)], args := [d1, d2, d3] }
  | _ => none }
def fnFirstSeqIsLeastOutstandingRow : OpenClaim := { program := "qxb6604503a", sum := "44eb6f9aae56b251b581a3f2b4524bc4442c493040fbe99fd02f44342d1426f1", func := "example.com/portalis/portalis/zzlaws_internal_proxy_b1.FnFirstSeqIsLeastOutstanding", spec := "fnFirstSeqIsLeastOutstanding", apart := false }
def FnFirstSeqIsLeastOutstandingSaid : Prop := fnFirstSeqIsLeastOutstandingRow.holds Try.pinned (OpenSpec.ofChange fnFirstSeqIsLeastOutstandingSpec)

/-- ITS FALSE NEIGHBOUR: 'it returns false'. Refute it at one input. -/
def fnFirstSeqIsLeastOutstandingWrong : ChangeSpec := { name := "fnFirstSeqIsLeastOutstanding", fn := fun _ => fun
  | [d1, d2, d3] => { results := [.lit (.bool false)], args := [d1, d2, d3] }
  | _ => none }
def FnFirstSeqIsLeastOutstandingWrongFalsely : Prop := fnFirstSeqIsLeastOutstandingRow.holds Try.pinned (OpenSpec.ofChange fnFirstSeqIsLeastOutstandingWrong)

/-- 'zzlaws_internal_proxy_b1.FnBoundRecordsWhatTheStatementMayDrop': WHATEVER THE INPUT: true; the input reads as it did. -/
def fnBoundRecordsWhatTheStatementMayDropSpec : ChangeSpec := { name := "fnBoundRecordsWhatTheStatementMayDrop", fn := fun _ => fun
  | [d1, d2, d3, d4, d5, d6, d7, d8, d9] => { results := [.lit (.bool true)], args := [d1, d2, d3, d4, d5, d6, d7, d8, d9] }
  | _ => none }
def fnBoundRecordsWhatTheStatementMayDropRow : OpenClaim := { program := "qxb6604503a", sum := "44eb6f9aae56b251b581a3f2b4524bc4442c493040fbe99fd02f44342d1426f1", func := "example.com/portalis/portalis/zzlaws_internal_proxy_b1.FnBoundRecordsWhatTheStatementMayDrop", spec := "fnBoundRecordsWhatTheStatementMayDrop", apart := false }
def FnBoundRecordsWhatTheStatementMayDropSaid : Prop := fnBoundRecordsWhatTheStatementMayDropRow.holds Try.pinned (OpenSpec.ofChange fnBoundRecordsWhatTheStatementMayDropSpec)

/-- ITS FALSE NEIGHBOUR: 'it returns false'. Refute it at one input. -/
def fnBoundRecordsWhatTheStatementMayDropWrong : ChangeSpec := { name := "fnBoundRecordsWhatTheStatementMayDrop", fn := fun _ => fun
  | [d1, d2, d3, d4, d5, d6, d7, d8, d9] => { results := [.lit (.bool false)], args := [d1, d2, d3, d4, d5, d6, d7, d8, d9] }
  | _ => none }
def FnBoundRecordsWhatTheStatementMayDropWrongFalsely : Prop := fnBoundRecordsWhatTheStatementMayDropRow.holds Try.pinned (OpenSpec.ofChange fnBoundRecordsWhatTheStatementMayDropWrong)

/-- 'zzlaws_internal_proxy_b1.FnBoundScriptEachPortalAsItsLastBind': WHATEVER THE INPUT: true; the input reads as it did. -/
def fnBoundScriptEachPortalAsItsLastBindSpec : ChangeSpec := { name := "fnBoundScriptEachPortalAsItsLastBind", fn := fun _ => fun
  | [d1, d2, d3, d4, d5, d6, d7, d8, d9, d10, d11, d12] => { results := [.lit (.bool true)], args := [d1, d2, d3, d4, d5, d6, d7, d8, d9, d10, d11, d12] }
  | _ => none }
def fnBoundScriptEachPortalAsItsLastBindRow : OpenClaim := { program := "qxb6604503a", sum := "44eb6f9aae56b251b581a3f2b4524bc4442c493040fbe99fd02f44342d1426f1", func := "example.com/portalis/portalis/zzlaws_internal_proxy_b1.FnBoundScriptEachPortalAsItsLastBind", spec := "fnBoundScriptEachPortalAsItsLastBind", apart := false }
def FnBoundScriptEachPortalAsItsLastBindSaid : Prop := fnBoundScriptEachPortalAsItsLastBindRow.holds Try.pinned (OpenSpec.ofChange fnBoundScriptEachPortalAsItsLastBindSpec)

/-- ITS FALSE NEIGHBOUR: 'it returns false'. Refute it at one input. -/
def fnBoundScriptEachPortalAsItsLastBindWrong : ChangeSpec := { name := "fnBoundScriptEachPortalAsItsLastBind", fn := fun _ => fun
  | [d1, d2, d3, d4, d5, d6, d7, d8, d9, d10, d11, d12] => { results := [.lit (.bool false)], args := [d1, d2, d3, d4, d5, d6, d7, d8, d9, d10, d11, d12] }
  | _ => none }
def FnBoundScriptEachPortalAsItsLastBindWrongFalsely : Prop := fnBoundScriptEachPortalAsItsLastBindRow.holds Try.pinned (OpenSpec.ofChange fnBoundScriptEachPortalAsItsLastBindWrong)

end Rows
end Go.Proofs.Qxb6604503a

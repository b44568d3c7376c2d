/-
  No cell of these rows narrows 'for every input' (looked for: loops, veiled, ifaces, maps, wideKeys, modest, calm, conditions, laid).
  DERIVED. THE GIVEN ROWS OF THIS SEAT. 2 by the template 'for every input the law returns true; each argument reads behind the call as it read before'; 0 by the template 'total and deterministic' (their statements: Qxb6604357aFmtTotals.lean).
  GIVEN WITH THE SEED: the statements are not yours to turn. If you find one false, say at which input.
  Laid BY PROGRAM, IN A SANDBOX (cutbox-rows.mjs): the forced cells as the released guide's own fill.sh prints them over the translation 78df2dacc9a0de68… (all of the seat's roots in one cut). By AI agents, Wed Nov 11 2026. No macro, syntax, notation, axiom, sorry.
-/
import Derived.Test.Qxb6604357aFmtChecked
import GoSem.Claim
import GoSem.ClaimJoined
import GoSem.ClaimMapViews
import Derived.JoinedTies
import Derived.KernelRfl
namespace Go.Proofs.Qxb6604357aFmt
/- THE CELL 'sum', in the pinned program and in every row, IS THE sha256 OF THE DUMP (.gsa) THAT Qxb6604357aFmtProg.lean LOADS. Nothing in Lean hashes anything: it is a label: what it is worth is what the hold of that sum in a sandbox is worth. -/
noncomputable def Tryf.pinned : Pinned := { name := "qxb6604357afmt", sum := "78df2dacc9a0de68488e3ee6adaf67a83ca41ab0b8dd3683900d8b8d59a14c66", checked := Tryf.checked }
namespace Rows
def none {H : Type} : Left H := { results := [], args := [] }

/-- 'zzlaws_root_b1.FnAppendStepReadsBack': WHATEVER THE INPUT: true; the input reads as it did. -/
def fnAppendStepReadsBackSpec : ChangeSpec := { name := "fnAppendStepReadsBack", fn := fun _ => fun
  | [d1, d2, d3, d4] => { results := [.lit (.bool true)], args := [d1, d2, d3, d4] }
  | _ => none }
def fnAppendStepReadsBackRow : OpenClaim := { program := "qxb6604357afmt", sum := "78df2dacc9a0de68488e3ee6adaf67a83ca41ab0b8dd3683900d8b8d59a14c66", func := "example.com/atomkeep/atomkeep/zzlaws_root_b1.FnAppendStepReadsBack", spec := "fnAppendStepReadsBack", stops := ["fmt.Sprintf, its operands' methods called", "fmt.Sprint"], inPlace := ["fmt.Sprintf"], unfollowed := true, recurses := true, apart := false }
/-- NO THEOREM (fmt's text is open here; it may be false): for the released tool's asking of the row's closed facts alone. THE STATEMENT IS 'FnAppendStepReadsBackToldSaid' (Qxb6604357aFmtCards.lean). -/
def FnAppendStepReadsBackFormAsk : Prop := fnAppendStepReadsBackRow.holds Tryf.pinned (OpenSpec.ofChange fnAppendStepReadsBackSpec)

/-- ITS FALSE NEIGHBOUR: 'it returns false'. Refute it at one input. -/
def fnAppendStepReadsBackWrong : ChangeSpec := { name := "fnAppendStepReadsBack", fn := fun _ => fun
  | [d1, d2, d3, d4] => { results := [.lit (.bool false)], args := [d1, d2, d3, d4] }
  | _ => none }
def FnAppendStepReadsBackWrongFormAsk : Prop := fnAppendStepReadsBackRow.holds Tryf.pinned (OpenSpec.ofChange fnAppendStepReadsBackWrong)

/-- 'zzlaws_root_b1.FnAppendToReadsBack': WHATEVER THE INPUT: true; the input reads as it did. -/
def fnAppendToReadsBackSpec : ChangeSpec := { name := "fnAppendToReadsBack", fn := fun _ => fun
  | [d1, d2, d3, d4, d5, d6, d7] => { results := [.lit (.bool true)], args := [d1, d2, d3, d4, d5, d6, d7] }
  | _ => none }
def fnAppendToReadsBackRow : OpenClaim := { program := "qxb6604357afmt", sum := "78df2dacc9a0de68488e3ee6adaf67a83ca41ab0b8dd3683900d8b8d59a14c66", func := "example.com/atomkeep/atomkeep/zzlaws_root_b1.FnAppendToReadsBack", spec := "fnAppendToReadsBack", stops := ["fmt.Sprintf, its operands' methods called", "fmt.Sprint"], inPlace := ["fmt.Sprintf"], unfollowed := true, recurses := true, apart := false }
/-- NO THEOREM (fmt's text is open here; it may be false): for the released tool's asking of the row's closed facts alone. THE STATEMENT IS 'FnAppendToReadsBackToldSaid' (Qxb6604357aFmtCards.lean). -/
def FnAppendToReadsBackFormAsk : Prop := fnAppendToReadsBackRow.holds Tryf.pinned (OpenSpec.ofChange fnAppendToReadsBackSpec)

/-- ITS FALSE NEIGHBOUR: 'it returns false'. Refute it at one input. -/
def fnAppendToReadsBackWrong : ChangeSpec := { name := "fnAppendToReadsBack", fn := fun _ => fun
  | [d1, d2, d3, d4, d5, d6, d7] => { results := [.lit (.bool false)], args := [d1, d2, d3, d4, d5, d6, d7] }
  | _ => none }
def FnAppendToReadsBackWrongFormAsk : Prop := fnAppendToReadsBackRow.holds Tryf.pinned (OpenSpec.ofChange fnAppendToReadsBackWrong)

end Rows
end Go.Proofs.Qxb6604357aFmt

/-
  No cell of these rows narrows 'for every input' (looked for: loops, veiled, ifaces, maps, wideKeys, modest, calm, conditions, laid).
  DERIVED. THE GIVEN ROWS OF THIS SEAT. 1 by the template 'for every input the law returns true; each argument reads behind the call as it read before'; 0 by the template 'total and deterministic' (their statements: Qxb6604462aTotals.lean).
  GIVEN WITH THE SEED: the statements are not yours to turn. If you find one false, say at which input.
  Laid BY PROGRAM, IN A SANDBOX (cutbox-rows.mjs): the forced cells as the released guide's own fill.sh prints them over the translation e4039c2bbac34663… (all of the seat's roots in one cut). By AI agents, Wed Nov 11 2026. No macro, syntax, notation, axiom, sorry.
-/
import Derived.Test.Qxb6604462aChecked
import GoSem.Claim
import GoSem.ClaimJoined
import GoSem.ClaimMapViews
import Derived.JoinedTies
import Derived.KernelRfl
namespace Go.Proofs.Qxb6604462a
/- THE CELL 'sum', in the pinned program and in every row, IS THE sha256 OF THE DUMP (.gsa) THAT Qxb6604462aProg.lean LOADS. Nothing in Lean hashes anything: it is a label: what it is worth is what the hold of that sum in a sandbox is worth. -/
noncomputable def Try.pinned : Pinned := { name := "qxb6604462a", sum := "e4039c2bbac346635cdf5869806e2fbfe7490e40891e4acb9f41b3128053dff5", checked := Try.checked }
namespace Rows
def none {H : Type} : Left H := { results := [], args := [] }

/-- 'zzlaws_internal_genfile_b1.FnIsGeneratedHeaderLineMarks': WHATEVER THE INPUT: true; the input reads as it did. -/
def fnIsGeneratedHeaderLineMarksSpec : ChangeSpec := { name := "fnIsGeneratedHeaderLineMarks", fn := fun _ => fun
  | [d] => { results := [.lit (.bool true)], args := [d] }
  | _ => none }
def fnIsGeneratedHeaderLineMarksRow : OpenClaim := { program := "qxb6604462a", sum := "e4039c2bbac346635cdf5869806e2fbfe7490e40891e4acb9f41b3128053dff5", func := "example.com/bindwright/bindwright/zzlaws_internal_genfile_b1.FnIsGeneratedHeaderLineMarks", spec := "fnIsGeneratedHeaderLineMarks", apart := false }
def FnIsGeneratedHeaderLineMarksSaid : Prop := fnIsGeneratedHeaderLineMarksRow.holds Try.pinned (OpenSpec.ofChange fnIsGeneratedHeaderLineMarksSpec)

/-- ITS FALSE NEIGHBOUR: 'it returns false'. Refute it at one input. -/
def fnIsGeneratedHeaderLineMarksWrong : ChangeSpec := { name := "fnIsGeneratedHeaderLineMarks", fn := fun _ => fun
  | [d] => { results := [.lit (.bool false)], args := [d] }
  | _ => none }
def FnIsGeneratedHeaderLineMarksWrongFalsely : Prop := fnIsGeneratedHeaderLineMarksRow.holds Try.pinned (OpenSpec.ofChange fnIsGeneratedHeaderLineMarksWrong)

end Rows
end Go.Proofs.Qxb6604462a

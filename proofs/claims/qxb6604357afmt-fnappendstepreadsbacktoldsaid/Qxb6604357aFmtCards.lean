/-
  DERIVED. GIVEN WITH THE SEED: THE CARDS: each row of Qxb6604357aFmtRows.lean that lists a variable, with what it lists TIED to the program's text (the seventh form; the later family's looks); each row that meets fmt, with fmt's text TOLD by the authors' own Lean function (tested against real Go, not proved from fmt's source: count such statements apart). THE CARD IS WHAT COUNTS. Prove the row's statement (the work); the ties are given (Qxb6604357aFmtTie.lean); close each card by the builder's one call (the guide's Derived/Test/ToyasCard.lean, 'card_holds'). Laid BY PROGRAM, IN A SANDBOX (cutbox-door.mjs). By AI agents, Wed Nov 11 2026. No macro, syntax, notation, axiom, sorry.
-/
import Derived.Test.Qxb6604357aFmtRows
import GoSem.ClaimSeven
namespace Go.Proofs.Qxb6604357aFmt
namespace Rows

/-- THE TOLD CARD OF 'zzlaws_root_b1.FnAppendStepReadsBack'. -/
def fnAppendStepReadsBackCard : Claim7 := { stood := { row := fnAppendStepReadsBackRow, standIns := [], harness := (true, "20ace44e32397b016a6fc6754c956ad082eca06b8bb3a1601f0aecb6dce34909"), looks := false }, told := true, goes := false }
def FnAppendStepReadsBackToldSaid : Prop := Claim7.holds Tryf.pinned (.plain (OpenSpec.ofChange fnAppendStepReadsBackSpec)) fnAppendStepReadsBackCard
/-- ITS FALSE NEIGHBOUR. Refute it at one input. -/
def FnAppendStepReadsBackToldWrongFalsely : Prop := Claim7.holds Tryf.pinned (.plain (OpenSpec.ofChange fnAppendStepReadsBackWrong)) fnAppendStepReadsBackCard

/-- THE TOLD CARD OF 'zzlaws_root_b1.FnAppendToReadsBack'. -/
def fnAppendToReadsBackCard : Claim7 := { stood := { row := fnAppendToReadsBackRow, standIns := [], harness := (true, "20ace44e32397b016a6fc6754c956ad082eca06b8bb3a1601f0aecb6dce34909"), looks := false }, told := true, goes := false }
def FnAppendToReadsBackToldSaid : Prop := Claim7.holds Tryf.pinned (.plain (OpenSpec.ofChange fnAppendToReadsBackSpec)) fnAppendToReadsBackCard
/-- ITS FALSE NEIGHBOUR. Refute it at one input. -/
def FnAppendToReadsBackToldWrongFalsely : Prop := Claim7.holds Tryf.pinned (.plain (OpenSpec.ofChange fnAppendToReadsBackWrong)) fnAppendToReadsBackCard
end Rows
end Go.Proofs.Qxb6604357aFmt

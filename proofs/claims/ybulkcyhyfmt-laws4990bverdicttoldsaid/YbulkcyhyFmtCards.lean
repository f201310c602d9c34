/-
  DERIVED. GIVEN WITH THE SEED: THE CARDS: each row of YbulkcyhyFmtRows.lean that lists a variable, with what it lists TIED to the program's text (the seventh form; the later family's looks); each row that meets fmt, with fmt's text TOLD by the authors' own Lean function (tested against real Go, not proved from fmt's source: count such statements apart). THE CARD IS WHAT COUNTS. Prove the row's statement (the work); the ties are given (YbulkcyhyFmtTie.lean); close each card by the builder's one call (the guide's Derived/Test/ToyasCard.lean, 'card_holds'). Laid BY PROGRAM, IN A SANDBOX (cutbox-door.mjs). By AI agents, Wed Nov 11 2026. No macro, syntax, notation, axiom, sorry.
-/
import Derived.Test.YbulkcyhyFmtRows
import GoSem.ClaimSeven
namespace Go.Proofs.YbulkcyhyFmt
namespace Rows

/-- THE TOLD CARD OF 'accordant.LawS4990BVerdict'. -/
def lawS4990BVerdictCard : Claim7 := { stood := { row := lawS4990BVerdictRow, standIns := [], harness := (true, "5f97308e1d0ad0a4809d255d010529bae3cdd3716db56539ce76111ba341934b"), looks := false }, told := true, goes := false }
def LawS4990BVerdictToldSaid : Prop := Claim7.holds Ybaf.pinned (.plain (OpenSpec.ofChange lawS4990BVerdictSpec)) lawS4990BVerdictCard
/-- ITS FALSE NEIGHBOUR. Refute it at one input. -/
def LawS4990BVerdictToldWrongFalsely : Prop := Claim7.holds Ybaf.pinned (.plain (OpenSpec.ofChange lawS4990BVerdictWrong)) lawS4990BVerdictCard
end Rows
end Go.Proofs.YbulkcyhyFmt

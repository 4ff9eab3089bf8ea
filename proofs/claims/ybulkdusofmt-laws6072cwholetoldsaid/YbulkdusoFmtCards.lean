/-
  DERIVED. GIVEN WITH THE SEED: THE CARDS: each row of YbulkdusoFmtRows.lean that lists a variable, with what it lists TIED to the program's text (the seventh form; the later family's looks); each row that meets fmt, with fmt's text TOLD by the authors' own Lean function (tested against real Go, not proved from fmt's source: count such statements apart). THE CARD IS WHAT COUNTS. Prove the row's statement (the work); the ties are given (YbulkdusoFmtTie.lean); close each card by the builder's one call (the guide's Derived/Test/ToyasCard.lean, 'card_holds'). Laid BY PROGRAM, IN A SANDBOX (cutbox-door.mjs). By AI agents, Wed Nov 11 2026. No macro, syntax, notation, axiom, sorry.
-/
import Derived.Test.YbulkdusoFmtRows
import GoSem.ClaimSeven
namespace Go.Proofs.YbulkdusoFmt
namespace Rows

/-- THE TOLD CARD OF 'tagwright.LawS6072CWhole'. -/
def lawS6072CWholeCard : Claim7 := { stood := { row := lawS6072CWholeRow, standIns := [], harness := (true, "758af78861eabb8ab8c8142aaeac9fd5321ea03835112d341b1bf7e87be28518"), looks := false }, told := true, goes := false }
def LawS6072CWholeToldSaid : Prop := Claim7.holds Ybaf.pinned (.plain (OpenSpec.ofChange lawS6072CWholeSpec)) lawS6072CWholeCard
/-- ITS FALSE NEIGHBOUR. Refute it at one input. -/
def LawS6072CWholeToldWrongFalsely : Prop := Claim7.holds Ybaf.pinned (.plain (OpenSpec.ofChange lawS6072CWholeWrong)) lawS6072CWholeCard
end Rows
end Go.Proofs.YbulkdusoFmt

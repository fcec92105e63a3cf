/-
  DERIVED. GIVEN WITH THE SEED: THE CARDS: each row of YbulkdvekFmtRows.lean that lists a variable, with what it lists TIED to the program's text (the seventh form; the later family's looks); each row that meets fmt, with fmt's text TOLD by the authors' own Lean function (tested against real Go, not proved from fmt's source: count such statements apart). THE CARD IS WHAT COUNTS. Prove the row's statement (the work); the ties are given (YbulkdvekFmtTie.lean); close each card by the builder's one call (the guide's Derived/Test/ToyasCard.lean, 'card_holds'). Laid BY PROGRAM, IN A SANDBOX (cutbox-door.mjs). By AI agents, Wed Nov 11 2026. No macro, syntax, notation, axiom, sorry.
-/
import Derived.Test.YbulkdvekFmtRows
import GoSem.ClaimSeven
namespace Go.Proofs.YbulkdvekFmt
namespace Rows

/-- THE TOLD CARD OF 'replica.LawS6094CWhole'. -/
def lawS6094CWholeCard : Claim7 := { stood := { row := lawS6094CWholeRow, standIns := [], harness := (true, "18b46267f603599821b0be3de9d8388a6abfb19dc9271a1e20490eb9a94a69b9"), looks := false }, told := true, goes := false }
def LawS6094CWholeToldSaid : Prop := Claim7.holds Ybaf.pinned (.plain (OpenSpec.ofChange lawS6094CWholeSpec)) lawS6094CWholeCard
/-- ITS FALSE NEIGHBOUR. Refute it at one input. -/
def LawS6094CWholeToldWrongFalsely : Prop := Claim7.holds Ybaf.pinned (.plain (OpenSpec.ofChange lawS6094CWholeWrong)) lawS6094CWholeCard
end Rows
end Go.Proofs.YbulkdvekFmt

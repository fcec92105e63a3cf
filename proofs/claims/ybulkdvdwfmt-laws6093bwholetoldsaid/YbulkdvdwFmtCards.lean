/-
  DERIVED. GIVEN WITH THE SEED: THE CARDS: each row of YbulkdvdwFmtRows.lean that lists a variable, with what it lists TIED to the program's text (the seventh form; the later family's looks); each row that meets fmt, with fmt's text TOLD by the authors' own Lean function (tested against real Go, not proved from fmt's source: count such statements apart). THE CARD IS WHAT COUNTS. Prove the row's statement (the work); the ties are given (YbulkdvdwFmtTie.lean); close each card by the builder's one call (the guide's Derived/Test/ToyasCard.lean, 'card_holds'). Laid BY PROGRAM, IN A SANDBOX (cutbox-door.mjs). By AI agents, Wed Nov 11 2026. No macro, syntax, notation, axiom, sorry.
-/
import Derived.Test.YbulkdvdwFmtRows
import GoSem.ClaimSeven
namespace Go.Proofs.YbulkdvdwFmt
namespace Rows

/-- THE TOLD CARD OF 'render.LawS6093BWhole'. -/
def lawS6093BWholeCard : Claim7 := { stood := { row := lawS6093BWholeRow, standIns := [], harness := (true, "141b6260a61db5ed0cd2785bd810a1aa6a642e7fa0733a39c7353aea0667bb5c"), looks := false }, told := true, goes := false }
def LawS6093BWholeToldSaid : Prop := Claim7.holds Ybaf.pinned (.plain (OpenSpec.ofChange lawS6093BWholeSpec)) lawS6093BWholeCard
/-- ITS FALSE NEIGHBOUR. Refute it at one input. -/
def LawS6093BWholeToldWrongFalsely : Prop := Claim7.holds Ybaf.pinned (.plain (OpenSpec.ofChange lawS6093BWholeWrong)) lawS6093BWholeCard
end Rows
end Go.Proofs.YbulkdvdwFmt

/-
  No cell of these rows narrows 'for every input' (looked for: loops, veiled, ifaces, maps, wideKeys, modest, calm, conditions, laid).
  DERIVED. THE GIVEN ROWS OF THIS SEAT. 1 by the template 'for every input the law returns true; each argument reads behind the call as it read before'; 0 by the template 'total and deterministic' (their statements: YbulkdvdwFmtTotals.lean).
  GIVEN WITH THE SEED: the statements are not yours to turn. If you find one false, say at which input.
  Laid BY PROGRAM, IN A SANDBOX (cutbox-rows.mjs): the forced cells as the released guide's own fill.sh prints them over the translation 930911072addf070… (all of the seat's roots in one cut). By AI agents, Wed Nov 11 2026. No macro, syntax, notation, axiom, sorry.
-/
import Derived.Test.YbulkdvdwFmtChecked
import GoSem.Claim
import GoSem.ClaimJoined
import GoSem.ClaimMapViews
import Derived.JoinedTies
import Derived.KernelRfl
namespace Go.Proofs.YbulkdvdwFmt
/- THE CELL 'sum', in the pinned program and in every row, IS THE sha256 OF THE DUMP (.gsa) THAT YbulkdvdwFmtProg.lean LOADS. Nothing in Lean hashes anything: it is a label: what it is worth is what the hold of that sum in a sandbox is worth. -/
noncomputable def Ybaf.pinned : Pinned := { name := "ybulkdvdwfmt", sum := "930911072addf070b3b2de20e33fedc7ded6151ada6e7a41ce317345e52984c9", checked := Ybaf.checked }
namespace Rows
def none {H : Type} : Left H := { results := [], args := [] }

/-- 'render.LawS6093BWhole': WHATEVER THE INPUT: true; the input reads as it did. -/
def lawS6093BWholeSpec : ChangeSpec := { name := "lawS6093BWhole", fn := fun _ => fun
  | [d1, d2, d3] => { results := [.lit (.bool true)], args := [d1, d2, d3] }
  | _ => none }
def lawS6093BWholeRow : OpenClaim := { program := "ybulkdvdwfmt", sum := "930911072addf070b3b2de20e33fedc7ded6151ada6e7a41ce317345e52984c9", func := "example.com/dewpoint/dewpoint/render.LawS6093BWhole", spec := "lawS6093BWhole", stops := ["fmt.Sprintf, its operands' methods called"], inPlace := ["fmt.Sprintf"], unfollowed := true, recurses := true, apart := false }
/-- NO THEOREM (fmt's text is open here; it may be false): for the released tool's asking of the row's closed facts alone. THE STATEMENT IS 'LawS6093BWholeToldSaid' (YbulkdvdwFmtCards.lean). -/
def LawS6093BWholeFormAsk : Prop := lawS6093BWholeRow.holds Ybaf.pinned (OpenSpec.ofChange lawS6093BWholeSpec)

/-- ITS FALSE NEIGHBOUR: 'it returns false'. Refute it at one input. -/
def lawS6093BWholeWrong : ChangeSpec := { name := "lawS6093BWhole", fn := fun _ => fun
  | [d1, d2, d3] => { results := [.lit (.bool false)], args := [d1, d2, d3] }
  | _ => none }
def LawS6093BWholeWrongFormAsk : Prop := lawS6093BWholeRow.holds Ybaf.pinned (OpenSpec.ofChange lawS6093BWholeWrong)

end Rows
end Go.Proofs.YbulkdvdwFmt

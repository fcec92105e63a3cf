/-
  No cell of these rows narrows 'for every input' (looked for: loops, veiled, ifaces, maps, wideKeys, modest, calm, conditions, laid).
  DERIVED. THE GIVEN ROWS OF THIS SEAT. 1 by the template 'for every input the law returns true; each argument reads behind the call as it read before'; 0 by the template 'total and deterministic' (their statements: YbulkdvekFmtTotals.lean).
  GIVEN WITH THE SEED: the statements are not yours to turn. If you find one false, say at which input.
  Laid BY PROGRAM, IN A SANDBOX (cutbox-rows.mjs): the forced cells as the released guide's own fill.sh prints them over the translation 0a9bc27347a18f28… (all of the seat's roots in one cut). By AI agents, Wed Nov 11 2026. No macro, syntax, notation, axiom, sorry.
-/
import Derived.Test.YbulkdvekFmtChecked
import GoSem.Claim
import GoSem.ClaimJoined
import GoSem.ClaimMapViews
import Derived.JoinedTies
import Derived.KernelRfl
namespace Go.Proofs.YbulkdvekFmt
/- THE CELL 'sum', in the pinned program and in every row, IS THE sha256 OF THE DUMP (.gsa) THAT YbulkdvekFmtProg.lean LOADS. Nothing in Lean hashes anything: it is a label: what it is worth is what the hold of that sum in a sandbox is worth. -/
noncomputable def Ybaf.pinned : Pinned := { name := "ybulkdvekfmt", sum := "0a9bc27347a18f28d21d0d8c2f5521f8ed689a18111fe85cd02ba67156809760", checked := Ybaf.checked }
namespace Rows
def none {H : Type} : Left H := { results := [], args := [] }

/-- 'replica.LawS6094CWhole': WHATEVER THE INPUT: true; the input reads as it did. -/
def lawS6094CWholeSpec : ChangeSpec := { name := "lawS6094CWhole", fn := fun _ => fun
  | [d1, d2, d3] => { results := [.lit (.bool true)], args := [d1, d2, d3] }
  | _ => none }
def lawS6094CWholeRow : OpenClaim := { program := "ybulkdvekfmt", sum := "0a9bc27347a18f28d21d0d8c2f5521f8ed689a18111fe85cd02ba67156809760", func := "example.com/antecede/antecede/replica.LawS6094CWhole", spec := "lawS6094CWhole", stops := ["fmt.errorf"], inPlace := ["fmt.errorf"], apart := false }
/-- NO THEOREM (fmt's text is open here; it may be false): for the released tool's asking of the row's closed facts alone. THE STATEMENT IS 'LawS6094CWholeToldSaid' (YbulkdvekFmtCards.lean). -/
def LawS6094CWholeFormAsk : Prop := lawS6094CWholeRow.holds Ybaf.pinned (OpenSpec.ofChange lawS6094CWholeSpec)

/-- ITS FALSE NEIGHBOUR: 'it returns false'. Refute it at one input. -/
def lawS6094CWholeWrong : ChangeSpec := { name := "lawS6094CWhole", fn := fun _ => fun
  | [d1, d2, d3] => { results := [.lit (.bool false)], args := [d1, d2, d3] }
  | _ => none }
def LawS6094CWholeWrongFormAsk : Prop := lawS6094CWholeRow.holds Ybaf.pinned (OpenSpec.ofChange lawS6094CWholeWrong)

end Rows
end Go.Proofs.YbulkdvekFmt

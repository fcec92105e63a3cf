/-
  No cell of these rows narrows 'for every input' (looked for: loops, veiled, ifaces, maps, wideKeys, modest, calm, conditions, laid).
  DERIVED. THE GIVEN ROWS OF THIS SEAT. 1 by the template 'for every input the law returns true; each argument reads behind the call as it read before'; 0 by the template 'total and deterministic' (their statements: YbulkdvdwTotals.lean).
  GIVEN WITH THE SEED: the statements are not yours to turn. If you find one false, say at which input.
  Laid BY PROGRAM, IN A SANDBOX (cutbox-rows.mjs): the forced cells as the released guide's own fill.sh prints them over the translation 62ee453b46ed561d… (all of the seat's roots in one cut). By AI agents, Wed Nov 11 2026. No macro, syntax, notation, axiom, sorry.
-/
import Derived.Test.YbulkdvdwChecked
import GoSem.Claim
import GoSem.ClaimJoined
import GoSem.ClaimMapViews
import Derived.JoinedTies
import Derived.KernelRfl
namespace Go.Proofs.Ybulkdvdw
/- THE CELL 'sum', in the pinned program and in every row, IS THE sha256 OF THE DUMP (.gsa) THAT YbulkdvdwProg.lean LOADS. Nothing in Lean hashes anything: it is a label: what it is worth is what the hold of that sum in a sandbox is worth. -/
noncomputable def Yba.pinned : Pinned := { name := "ybulkdvdw", sum := "62ee453b46ed561d594066c6faf7b92741923e1f00cc71071a1bc8c889eec032", checked := Yba.checked }
namespace Rows
def none {H : Type} : Left H := { results := [], args := [] }

/-- 'yamldata.LawS6093CWhole': WHATEVER THE INPUT: true; the input reads as it did. -/
def lawS6093CWholeSpec : ChangeSpec := { name := "lawS6093CWhole", fn := fun _ => fun
  | [d] => { results := [.lit (.bool true)], args := [d] }
  | _ => none }
def lawS6093CWholeRow : OpenClaim := { program := "ybulkdvdw", sum := "62ee453b46ed561d594066c6faf7b92741923e1f00cc71071a1bc8c889eec032", func := "example.com/dewpoint/dewpoint/yamldata.LawS6093CWhole", spec := "lawS6093CWhole", apart := false }
def LawS6093CWholeSaid : Prop := lawS6093CWholeRow.holds Yba.pinned (OpenSpec.ofChange lawS6093CWholeSpec)

/-- ITS FALSE NEIGHBOUR: 'it returns false'. Refute it at one input. -/
def lawS6093CWholeWrong : ChangeSpec := { name := "lawS6093CWhole", fn := fun _ => fun
  | [d] => { results := [.lit (.bool false)], args := [d] }
  | _ => none }
def LawS6093CWholeWrongFalsely : Prop := lawS6093CWholeRow.holds Yba.pinned (OpenSpec.ofChange lawS6093CWholeWrong)

end Rows
end Go.Proofs.Ybulkdvdw

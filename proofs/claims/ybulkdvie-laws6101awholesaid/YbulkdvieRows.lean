/-
  No cell of these rows narrows 'for every input' (looked for: loops, veiled, ifaces, maps, wideKeys, modest, calm, conditions, laid).
  DERIVED. THE GIVEN ROWS OF THIS SEAT. 2 by the template 'for every input the law returns true; each argument reads behind the call as it read before'; 0 by the template 'total and deterministic' (their statements: YbulkdvieTotals.lean).
  GIVEN WITH THE SEED: the statements are not yours to turn. If you find one false, say at which input.
  Laid BY PROGRAM, IN A SANDBOX (cutbox-rows.mjs): the forced cells as the released guide's own fill.sh prints them over the translation 4d1227450728e3a8… (all of the seat's roots in one cut). By AI agents, Wed Nov 11 2026. No macro, syntax, notation, axiom, sorry.
-/
import Derived.Test.YbulkdvieChecked
import GoSem.Claim
import GoSem.ClaimJoined
import GoSem.ClaimMapViews
import Derived.JoinedTies
import Derived.KernelRfl
namespace Go.Proofs.Ybulkdvie
/- THE CELL 'sum', in the pinned program and in every row, IS THE sha256 OF THE DUMP (.gsa) THAT YbulkdvieProg.lean LOADS. Nothing in Lean hashes anything: it is a label: what it is worth is what the hold of that sum in a sandbox is worth. -/
noncomputable def Yba.pinned : Pinned := { name := "ybulkdvie", sum := "4d1227450728e3a843f0946535c825fdec7d416c68e51344396d852032348339", checked := Yba.checked }
namespace Rows
def none {H : Type} : Left H := { results := [], args := [] }

/-- 'probe.LawS6101AWhole': WHATEVER THE INPUT: true; the input reads as it did. -/
def lawS6101AWholeSpec : ChangeSpec := { name := "lawS6101AWhole", fn := fun _ => fun
  | [d1, d2, d3] => { results := [.lit (.bool true)], args := [d1, d2, d3] }
  | _ => none }
def lawS6101AWholeRow : OpenClaim := { program := "ybulkdvie", sum := "4d1227450728e3a843f0946535c825fdec7d416c68e51344396d852032348339", func := "example.com/handshake-tether/handshake-tether/pkg/probe.LawS6101AWhole", spec := "lawS6101AWhole", apart := false }
def LawS6101AWholeSaid : Prop := lawS6101AWholeRow.holds Yba.pinned (OpenSpec.ofChange lawS6101AWholeSpec)

/-- ITS FALSE NEIGHBOUR: 'it returns false'. Refute it at one input. -/
def lawS6101AWholeWrong : ChangeSpec := { name := "lawS6101AWhole", fn := fun _ => fun
  | [d1, d2, d3] => { results := [.lit (.bool false)], args := [d1, d2, d3] }
  | _ => none }
def LawS6101AWholeWrongFalsely : Prop := lawS6101AWholeRow.holds Yba.pinned (OpenSpec.ofChange lawS6101AWholeWrong)

/-- 'report.LawS6101CWhole': WHATEVER THE INPUT: true; the input reads as it did. -/
def lawS6101CWholeSpec : ChangeSpec := { name := "lawS6101CWhole", fn := fun _ => fun
  | [d] => { results := [.lit (.bool true)], args := [d] }
  | _ => none }
def lawS6101CWholeRow : OpenClaim := { program := "ybulkdvie", sum := "4d1227450728e3a843f0946535c825fdec7d416c68e51344396d852032348339", func := "example.com/handshake-tether/handshake-tether/pkg/report.LawS6101CWhole", spec := "lawS6101CWhole", apart := false }
def LawS6101CWholeSaid : Prop := lawS6101CWholeRow.holds Yba.pinned (OpenSpec.ofChange lawS6101CWholeSpec)

/-- ITS FALSE NEIGHBOUR: 'it returns false'. Refute it at one input. -/
def lawS6101CWholeWrong : ChangeSpec := { name := "lawS6101CWhole", fn := fun _ => fun
  | [d] => { results := [.lit (.bool false)], args := [d] }
  | _ => none }
def LawS6101CWholeWrongFalsely : Prop := lawS6101CWholeRow.holds Yba.pinned (OpenSpec.ofChange lawS6101CWholeWrong)

end Rows
end Go.Proofs.Ybulkdvie

/-
  No cell of these rows narrows 'for every input' (looked for: loops, veiled, ifaces, maps, wideKeys, modest, calm, conditions, laid).
  DERIVED. THE GIVEN ROWS OF THIS SEAT. 2 by the template 'for every input the law returns true; each argument reads behind the call as it read before'; 0 by the template 'total and deterministic' (their statements: YbulkdvjuTotals.lean).
  GIVEN WITH THE SEED: the statements are not yours to turn. If you find one false, say at which input.
  Laid BY PROGRAM, IN A SANDBOX (cutbox-rows.mjs): the forced cells as the released guide's own fill.sh prints them over the translation a1a992c2d01074d3… (all of the seat's roots in one cut). By AI agents, Wed Nov 11 2026. No macro, syntax, notation, axiom, sorry.
-/
import Derived.Test.YbulkdvjuChecked
import GoSem.Claim
import GoSem.ClaimJoined
import GoSem.ClaimMapViews
import Derived.JoinedTies
import Derived.KernelRfl
namespace Go.Proofs.Ybulkdvju
/- THE CELL 'sum', in the pinned program and in every row, IS THE sha256 OF THE DUMP (.gsa) THAT YbulkdvjuProg.lean LOADS. Nothing in Lean hashes anything: it is a label: what it is worth is what the hold of that sum in a sandbox is worth. -/
noncomputable def Yba.pinned : Pinned := { name := "ybulkdvju", sum := "a1a992c2d01074d3397f54e3639b2bdb33fdab10d80c69b2d48ad765cc6ffe9c", checked := Yba.checked }
namespace Rows
def none {H : Type} : Left H := { results := [], args := [] }

/-- 'replay.LawS6104BWhole': WHATEVER THE INPUT: true; the input reads as it did. -/
def lawS6104BWholeSpec : ChangeSpec := { name := "lawS6104BWhole", fn := fun _ => fun
  | [d1, d2, d3, d4, d5, d6, d7, d8] => { results := [.lit (.bool true)], args := [d1, d2, d3, d4, d5, d6, d7, d8] }
  | _ => none }
def lawS6104BWholeRow : OpenClaim := { program := "ybulkdvju", sum := "a1a992c2d01074d3397f54e3639b2bdb33fdab10d80c69b2d48ad765cc6ffe9c", func := "example.com/epochwise/epochwise/replay.LawS6104BWhole", spec := "lawS6104BWhole", inPlace := ["math.Float64bits"], apart := false }
def LawS6104BWholeSaid : Prop := lawS6104BWholeRow.holds Yba.pinned (OpenSpec.ofChange lawS6104BWholeSpec)

/-- ITS FALSE NEIGHBOUR: 'it returns false'. Refute it at one input. -/
def lawS6104BWholeWrong : ChangeSpec := { name := "lawS6104BWhole", fn := fun _ => fun
  | [d1, d2, d3, d4, d5, d6, d7, d8] => { results := [.lit (.bool false)], args := [d1, d2, d3, d4, d5, d6, d7, d8] }
  | _ => none }
def LawS6104BWholeWrongFalsely : Prop := lawS6104BWholeRow.holds Yba.pinned (OpenSpec.ofChange lawS6104BWholeWrong)

/-- 'manager.LawS6104CWhole': WHATEVER THE INPUT: true; the input reads as it did. -/
def lawS6104CWholeSpec : ChangeSpec := { name := "lawS6104CWhole", fn := fun _ => fun
  | [d1, d2] => { results := [.lit (.bool true)], args := [d1, d2] }
  | _ => none }
def lawS6104CWholeRow : OpenClaim := { program := "ybulkdvju", sum := "a1a992c2d01074d3397f54e3639b2bdb33fdab10d80c69b2d48ad765cc6ffe9c", func := "example.com/epochwise/epochwise/manager.LawS6104CWhole", spec := "lawS6104CWhole", inPlace := ["math.Float64bits"], apart := false }
def LawS6104CWholeSaid : Prop := lawS6104CWholeRow.holds Yba.pinned (OpenSpec.ofChange lawS6104CWholeSpec)

/-- ITS FALSE NEIGHBOUR: 'it returns false'. Refute it at one input. -/
def lawS6104CWholeWrong : ChangeSpec := { name := "lawS6104CWhole", fn := fun _ => fun
  | [d1, d2] => { results := [.lit (.bool false)], args := [d1, d2] }
  | _ => none }
def LawS6104CWholeWrongFalsely : Prop := lawS6104CWholeRow.holds Yba.pinned (OpenSpec.ofChange lawS6104CWholeWrong)

end Rows
end Go.Proofs.Ybulkdvju

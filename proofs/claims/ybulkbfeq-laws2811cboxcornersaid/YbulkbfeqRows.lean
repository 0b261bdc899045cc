/-
  No cell of these rows narrows 'for every input' (looked for: loops, veiled, ifaces, maps, wideKeys, modest, calm, conditions, laid).
  DERIVED. THE GIVEN ROWS OF THIS SEAT. 2 by the template 'for every input the law returns true; each argument reads behind the call as it read before'; 0 by the template 'total and deterministic' (their statements: YbulkbfeqTotals.lean).
  GIVEN WITH THE SEED: the statements are not yours to turn. If you find one false, say at which input.
  Laid BY PROGRAM, IN A SANDBOX (cutbox-rows.mjs): the forced cells as the released guide's own fill.sh prints them over the translation 7dd9ab42ac57f123… (all of the seat's roots in one cut). By AI agents, Wed Nov 11 2026. No macro, syntax, notation, axiom, sorry.
-/
import Derived.Test.YbulkbfeqChecked
import GoSem.Claim
import GoSem.ClaimJoined
import GoSem.ClaimMapViews
import Derived.JoinedTies
import Derived.KernelRfl
namespace Go.Proofs.Ybulkbfeq
/- THE CELL 'sum', in the pinned program and in every row, IS THE sha256 OF THE DUMP (.gsa) THAT YbulkbfeqProg.lean LOADS. Nothing in Lean hashes anything: it is a label: what it is worth is what the hold of that sum in a sandbox is worth. -/
noncomputable def Yba.pinned : Pinned := { name := "ybulkbfeq", sum := "7dd9ab42ac57f123ab1695a483e01a2f1ecd08809c9baa7d9b3190b116fd3c5d", checked := Yba.checked }
namespace Rows
def none {H : Type} : Left H := { results := [], args := [] }

/-- 'thiessen.LawS2811CBoxCorner': WHATEVER THE INPUT: true; the input reads as it did. -/
def lawS2811CBoxCornerSpec : ChangeSpec := { name := "lawS2811CBoxCorner", fn := fun _ => fun
  | [d1, d2, d3, d4, d5, d6] => { results := [.lit (.bool true)], args := [d1, d2, d3, d4, d5, d6] }
  | _ => none }
def lawS2811CBoxCornerRow : OpenClaim := { program := "ybulkbfeq", sum := "7dd9ab42ac57f123ab1695a483e01a2f1ecd08809c9baa7d9b3190b116fd3c5d", func := "example.com/thiessen/thiessen.LawS2811CBoxCorner", spec := "lawS2811CBoxCorner", inPlace := ["math.Float64bits", "math.Float64frombits"], apart := false }
def LawS2811CBoxCornerSaid : Prop := lawS2811CBoxCornerRow.holds Yba.pinned (OpenSpec.ofChange lawS2811CBoxCornerSpec)

/-- ITS FALSE NEIGHBOUR: 'it returns false'. Refute it at one input. -/
def lawS2811CBoxCornerWrong : ChangeSpec := { name := "lawS2811CBoxCorner", fn := fun _ => fun
  | [d1, d2, d3, d4, d5, d6] => { results := [.lit (.bool false)], args := [d1, d2, d3, d4, d5, d6] }
  | _ => none }
def LawS2811CBoxCornerWrongFalsely : Prop := lawS2811CBoxCornerRow.holds Yba.pinned (OpenSpec.ofChange lawS2811CBoxCornerWrong)

/-- 'thiessen.LawS2811CTwoRows': WHATEVER THE INPUT: true; the input reads as it did. -/
def lawS2811CTwoRowsSpec : ChangeSpec := { name := "lawS2811CTwoRows", fn := fun _ => fun
  | [d1, d2] => { results := [.lit (.bool true)], args := [d1, d2] }
  | _ => none }
def lawS2811CTwoRowsRow : OpenClaim := { program := "ybulkbfeq", sum := "7dd9ab42ac57f123ab1695a483e01a2f1ecd08809c9baa7d9b3190b116fd3c5d", func := "example.com/thiessen/thiessen.LawS2811CTwoRows", spec := "lawS2811CTwoRows", inPlace := ["math.Float64bits", "math.Float64frombits"], apart := false }
def LawS2811CTwoRowsSaid : Prop := lawS2811CTwoRowsRow.holds Yba.pinned (OpenSpec.ofChange lawS2811CTwoRowsSpec)

/-- ITS FALSE NEIGHBOUR: 'it returns false'. Refute it at one input. -/
def lawS2811CTwoRowsWrong : ChangeSpec := { name := "lawS2811CTwoRows", fn := fun _ => fun
  | [d1, d2] => { results := [.lit (.bool false)], args := [d1, d2] }
  | _ => none }
def LawS2811CTwoRowsWrongFalsely : Prop := lawS2811CTwoRowsRow.holds Yba.pinned (OpenSpec.ofChange lawS2811CTwoRowsWrong)

end Rows
end Go.Proofs.Ybulkbfeq

/-
  No cell of these rows narrows 'for every input' (looked for: loops, veiled, ifaces, maps, wideKeys, modest, calm, conditions, laid).
  DERIVED. THE GIVEN ROWS OF THIS SEAT. 2 by the template 'for every input the law returns true; each argument reads behind the call as it read before'; 0 by the template 'total and deterministic' (their statements: YbulkbfkoTotals.lean).
  GIVEN WITH THE SEED: the statements are not yours to turn. If you find one false, say at which input.
  Laid BY PROGRAM, IN A SANDBOX (cutbox-rows.mjs): the forced cells as the released guide's own fill.sh prints them over the translation 4e9c615f239ea639… (all of the seat's roots in one cut). By AI agents, Wed Nov 11 2026. No macro, syntax, notation, axiom, sorry.
-/
import Derived.Test.YbulkbfkoChecked
import GoSem.Claim
import GoSem.ClaimJoined
import GoSem.ClaimMapViews
import Derived.JoinedTies
import Derived.KernelRfl
namespace Go.Proofs.Ybulkbfko
/- THE CELL 'sum', in the pinned program and in every row, IS THE sha256 OF THE DUMP (.gsa) THAT YbulkbfkoProg.lean LOADS. Nothing in Lean hashes anything: it is a label: what it is worth is what the hold of that sum in a sandbox is worth. -/
noncomputable def Yba.pinned : Pinned := { name := "ybulkbfko", sum := "4e9c615f239ea6391826bf43399c0a87e5c1863a4479bcdf86eaaa631aa2a102", checked := Yba.checked }
namespace Rows
def none {H : Type} : Left H := { results := [], args := [] }

/-- 'qrp.LawS2822BAdds': WHATEVER THE INPUT: true; the input reads as it did. -/
def lawS2822BAddsSpec : ChangeSpec := { name := "lawS2822BAdds", fn := fun _ => fun
  | [d1, d2] => { results := [.lit (.bool true)], args := [d1, d2] }
  | _ => none }
def lawS2822BAddsRow : OpenClaim := { program := "ybulkbfko", sum := "4e9c615f239ea6391826bf43399c0a87e5c1863a4479bcdf86eaaa631aa2a102", func := "peerloom.example/peerloom/qrp.LawS2822BAdds", spec := "lawS2822BAdds", apart := false }
def LawS2822BAddsSaid : Prop := lawS2822BAddsRow.holds Yba.pinned (OpenSpec.ofChange lawS2822BAddsSpec)

/-- ITS FALSE NEIGHBOUR: 'it returns false'. Refute it at one input. -/
def lawS2822BAddsWrong : ChangeSpec := { name := "lawS2822BAdds", fn := fun _ => fun
  | [d1, d2] => { results := [.lit (.bool false)], args := [d1, d2] }
  | _ => none }
def LawS2822BAddsWrongFalsely : Prop := lawS2822BAddsRow.holds Yba.pinned (OpenSpec.ofChange lawS2822BAddsWrong)

/-- 'qrp.LawS2822BMostCommon': WHATEVER THE INPUT: true; the input reads as it did. -/
def lawS2822BMostCommonSpec : ChangeSpec := { name := "lawS2822BMostCommon", fn := fun _ => fun
  | [d] => { results := [.lit (.bool true)], args := [d] }
  | _ => none }
def lawS2822BMostCommonRow : OpenClaim := { program := "ybulkbfko", sum := "4e9c615f239ea6391826bf43399c0a87e5c1863a4479bcdf86eaaa631aa2a102", func := "peerloom.example/peerloom/qrp.LawS2822BMostCommon", spec := "lawS2822BMostCommon", apart := false }
def LawS2822BMostCommonSaid : Prop := lawS2822BMostCommonRow.holds Yba.pinned (OpenSpec.ofChange lawS2822BMostCommonSpec)

/-- ITS FALSE NEIGHBOUR: 'it returns false'. Refute it at one input. -/
def lawS2822BMostCommonWrong : ChangeSpec := { name := "lawS2822BMostCommon", fn := fun _ => fun
  | [d] => { results := [.lit (.bool false)], args := [d] }
  | _ => none }
def LawS2822BMostCommonWrongFalsely : Prop := lawS2822BMostCommonRow.holds Yba.pinned (OpenSpec.ofChange lawS2822BMostCommonWrong)

end Rows
end Go.Proofs.Ybulkbfko

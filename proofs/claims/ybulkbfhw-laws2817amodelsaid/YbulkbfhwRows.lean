/-
  No cell of these rows narrows 'for every input' (looked for: loops, veiled, ifaces, maps, wideKeys, modest, calm, conditions, laid).
  DERIVED. THE GIVEN ROWS OF THIS SEAT. 3 by the template 'for every input the law returns true; each argument reads behind the call as it read before'; 0 by the template 'total and deterministic' (their statements: YbulkbfhwTotals.lean).
  GIVEN WITH THE SEED: the statements are not yours to turn. If you find one false, say at which input.
  Laid BY PROGRAM, IN A SANDBOX (cutbox-rows.mjs): the forced cells as the released guide's own fill.sh prints them over the translation edeab5b93f1fefa6… (all of the seat's roots in one cut). By AI agents, Wed Nov 11 2026. No macro, syntax, notation, axiom, sorry.
-/
import Derived.Test.YbulkbfhwChecked
import GoSem.Claim
import GoSem.ClaimJoined
import GoSem.ClaimMapViews
import Derived.JoinedTies
import Derived.KernelRfl
namespace Go.Proofs.Ybulkbfhw
/- THE CELL 'sum', in the pinned program and in every row, IS THE sha256 OF THE DUMP (.gsa) THAT YbulkbfhwProg.lean LOADS. Nothing in Lean hashes anything: it is a label: what it is worth is what the hold of that sum in a sandbox is worth. -/
noncomputable def Yba.pinned : Pinned := { name := "ybulkbfhw", sum := "edeab5b93f1fefa6225d2ddb50f4a1a2e06c3135b04aa09099a7740de67b514f", checked := Yba.checked }
namespace Rows
def none {H : Type} : Left H := { results := [], args := [] }

/-- 'antidep.LawS2817AModel': WHATEVER THE INPUT: true; the input reads as it did. -/
def lawS2817AModelSpec : ChangeSpec := { name := "lawS2817AModel", fn := fun _ => fun
  | [d1, d2, d3] => { results := [.lit (.bool true)], args := [d1, d2, d3] }
  | _ => none }
def lawS2817AModelRow : OpenClaim := { program := "ybulkbfhw", sum := "edeab5b93f1fefa6225d2ddb50f4a1a2e06c3135b04aa09099a7740de67b514f", func := "example.com/antidep/antidep.LawS2817AModel", spec := "lawS2817AModel", unfollowed := true, recurses := true, plainKeys := false, apart := false }
def LawS2817AModelSaid : Prop := lawS2817AModelRow.holds Yba.pinned (OpenSpec.ofChange lawS2817AModelSpec)

/-- ITS FALSE NEIGHBOUR: 'it returns false'. Refute it at one input. -/
def lawS2817AModelWrong : ChangeSpec := { name := "lawS2817AModel", fn := fun _ => fun
  | [d1, d2, d3] => { results := [.lit (.bool false)], args := [d1, d2, d3] }
  | _ => none }
def LawS2817AModelWrongFalsely : Prop := lawS2817AModelRow.holds Yba.pinned (OpenSpec.ofChange lawS2817AModelWrong)

/-- 'antidep.LawS2817BEmpty': WHATEVER THE INPUT: true; the input reads as it did. -/
def lawS2817BEmptySpec : ChangeSpec := { name := "lawS2817BEmpty", fn := fun _ => fun
  | [] => { results := [.lit (.bool true)], args := [] }
  | _ => none }
def lawS2817BEmptyRow : OpenClaim := { program := "ybulkbfhw", sum := "edeab5b93f1fefa6225d2ddb50f4a1a2e06c3135b04aa09099a7740de67b514f", func := "example.com/antidep/antidep.LawS2817BEmpty", spec := "lawS2817BEmpty", plainKeys := false, apart := false }
def LawS2817BEmptySaid : Prop := lawS2817BEmptyRow.holds Yba.pinned (OpenSpec.ofChange lawS2817BEmptySpec)

/-- ITS FALSE NEIGHBOUR: 'it returns false'. Refute it at one input. -/
def lawS2817BEmptyWrong : ChangeSpec := { name := "lawS2817BEmpty", fn := fun _ => fun
  | [] => { results := [.lit (.bool false)], args := [] }
  | _ => none }
def LawS2817BEmptyWrongFalsely : Prop := lawS2817BEmptyRow.holds Yba.pinned (OpenSpec.ofChange lawS2817BEmptyWrong)

/-- 'antidep.LawS2817BFreshMaps': WHATEVER THE INPUT: true; the input reads as it did. -/
def lawS2817BFreshMapsSpec : ChangeSpec := { name := "lawS2817BFreshMaps", fn := fun _ => fun
  | [d1, d2, d3, d4] => { results := [.lit (.bool true)], args := [d1, d2, d3, d4] }
  | _ => none }
def lawS2817BFreshMapsRow : OpenClaim := { program := "ybulkbfhw", sum := "edeab5b93f1fefa6225d2ddb50f4a1a2e06c3135b04aa09099a7740de67b514f", func := "example.com/antidep/antidep.LawS2817BFreshMaps", spec := "lawS2817BFreshMaps", plainKeys := false, apart := false }
def LawS2817BFreshMapsSaid : Prop := lawS2817BFreshMapsRow.holds Yba.pinned (OpenSpec.ofChange lawS2817BFreshMapsSpec)

/-- ITS FALSE NEIGHBOUR: 'it returns false'. Refute it at one input. -/
def lawS2817BFreshMapsWrong : ChangeSpec := { name := "lawS2817BFreshMaps", fn := fun _ => fun
  | [d1, d2, d3, d4] => { results := [.lit (.bool false)], args := [d1, d2, d3, d4] }
  | _ => none }
def LawS2817BFreshMapsWrongFalsely : Prop := lawS2817BFreshMapsRow.holds Yba.pinned (OpenSpec.ofChange lawS2817BFreshMapsWrong)

end Rows
end Go.Proofs.Ybulkbfhw

/-
  No cell of these rows narrows 'for every input' (looked for: loops, veiled, ifaces, maps, wideKeys, modest, calm, conditions, laid).
  DERIVED. THE GIVEN ROWS OF THIS SEAT. 2 by the template 'for every input the law returns true; each argument reads behind the call as it read before'; 0 by the template 'total and deterministic' (their statements: YbulkbfiyFmtTotals.lean).
  GIVEN WITH THE SEED: the statements are not yours to turn. If you find one false, say at which input.
  Laid BY PROGRAM, IN A SANDBOX (cutbox-rows.mjs): the forced cells as the released guide's own fill.sh prints them over the translation 90b774b43405af5b… (all of the seat's roots in one cut). By AI agents, Wed Nov 11 2026. No macro, syntax, notation, axiom, sorry.
-/
import Derived.Test.YbulkbfiyFmtChecked
import GoSem.Claim
import GoSem.ClaimJoined
import GoSem.ClaimMapViews
import Derived.JoinedTies
import Derived.KernelRfl
namespace Go.Proofs.YbulkbfiyFmt
/- THE CELL 'sum', in the pinned program and in every row, IS THE sha256 OF THE DUMP (.gsa) THAT YbulkbfiyFmtProg.lean LOADS. Nothing in Lean hashes anything: it is a label: what it is worth is what the hold of that sum in a sandbox is worth. -/
noncomputable def Ybaf.pinned : Pinned := { name := "ybulkbfiyfmt", sum := "90b774b43405af5b96377f6ce34bd33d663e0817a3a38e6bee0cac23a585507b", checked := Ybaf.checked }
namespace Rows
def none {H : Type} : Left H := { results := [], args := [] }

/-- 'activation.LawS2819ARead': WHATEVER THE INPUT: true; the input reads as it did. -/
def lawS2819AReadSpec : ChangeSpec := { name := "lawS2819ARead", fn := fun _ => fun
  | [d] => { results := [.lit (.bool true)], args := [d] }
  | _ => none }
def lawS2819AReadRow : OpenClaim := { program := "ybulkbfiyfmt", sum := "90b774b43405af5b96377f6ce34bd33d663e0817a3a38e6bee0cac23a585507b", func := "example.com/swallowtail/swallowtail/internal/activation.LawS2819ARead", spec := "lawS2819ARead", stops := ["fmt.Sprintf, its operands' methods called", "fmt.errorf"], inPlace := ["fmt.Sprintf", "fmt.errorf"], unfollowed := true, recurses := true, named := ["encoding/binary.BigEndian"], apart := false }
/-- NO THEOREM (fmt's text is open here; it may be false): for the released tool's asking of the row's closed facts alone. THE STATEMENT IS 'LawS2819AReadToldSaid' (YbulkbfiyFmtCards.lean). -/
def LawS2819AReadFormAsk : Prop := lawS2819AReadRow.holds Ybaf.pinned (OpenSpec.ofChange lawS2819AReadSpec)

/-- ITS FALSE NEIGHBOUR: 'it returns false'. Refute it at one input. -/
def lawS2819AReadWrong : ChangeSpec := { name := "lawS2819ARead", fn := fun _ => fun
  | [d] => { results := [.lit (.bool false)], args := [d] }
  | _ => none }
def LawS2819AReadWrongFormAsk : Prop := lawS2819AReadRow.holds Ybaf.pinned (OpenSpec.ofChange lawS2819AReadWrong)

/-- 'activation.LawS2819AValid': WHATEVER THE INPUT: true; the input reads as it did. -/
def lawS2819AValidSpec : ChangeSpec := { name := "lawS2819AValid", fn := fun _ => fun
  | [d1, d2, d3] => { results := [.lit (.bool true)], args := [d1, d2, d3] }
  | _ => none }
def lawS2819AValidRow : OpenClaim := { program := "ybulkbfiyfmt", sum := "90b774b43405af5b96377f6ce34bd33d663e0817a3a38e6bee0cac23a585507b", func := "example.com/swallowtail/swallowtail/internal/activation.LawS2819AValid", spec := "lawS2819AValid", stops := ["fmt.Sprintf, its operands' methods called", "fmt.errorf"], inPlace := ["fmt.Sprintf", "fmt.errorf"], unfollowed := true, recurses := true, named := ["encoding/binary.BigEndian"], apart := false }
/-- NO THEOREM (fmt's text is open here; it may be false): for the released tool's asking of the row's closed facts alone. THE STATEMENT IS 'LawS2819AValidToldSaid' (YbulkbfiyFmtCards.lean). -/
def LawS2819AValidFormAsk : Prop := lawS2819AValidRow.holds Ybaf.pinned (OpenSpec.ofChange lawS2819AValidSpec)

/-- ITS FALSE NEIGHBOUR: 'it returns false'. Refute it at one input. -/
def lawS2819AValidWrong : ChangeSpec := { name := "lawS2819AValid", fn := fun _ => fun
  | [d1, d2, d3] => { results := [.lit (.bool false)], args := [d1, d2, d3] }
  | _ => none }
def LawS2819AValidWrongFormAsk : Prop := lawS2819AValidRow.holds Ybaf.pinned (OpenSpec.ofChange lawS2819AValidWrong)

end Rows
end Go.Proofs.YbulkbfiyFmt

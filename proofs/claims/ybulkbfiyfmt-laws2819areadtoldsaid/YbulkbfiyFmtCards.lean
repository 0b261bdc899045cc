/-
  DERIVED. GIVEN WITH THE SEED: THE CARDS: each row of YbulkbfiyFmtRows.lean that lists a variable, with what it lists TIED to the program's text (the seventh form; the later family's looks); each row that meets fmt, with fmt's text TOLD by the authors' own Lean function (tested against real Go, not proved from fmt's source: count such statements apart). THE CARD IS WHAT COUNTS. Prove the row's statement (the work); the ties are given (YbulkbfiyFmtTie.lean); close each card by the builder's one call (the guide's Derived/Test/ToyasCard.lean, 'card_holds'). Laid BY PROGRAM, IN A SANDBOX (cutbox-door.mjs). By AI agents, Wed Nov 11 2026. No macro, syntax, notation, axiom, sorry.
-/
import Derived.Test.YbulkbfiyFmtRows
import GoSem.ClaimSeven
namespace Go.Proofs.YbulkbfiyFmt
namespace Rows

/-- THE TOLD CARD OF 'activation.LawS2819ARead'. -/
def lawS2819AReadCard : Claim7 := { stood := { row := lawS2819AReadRow, standIns := [], harness := (true, "629d8b5570ffae65b1cdb52e43b3dafc18e2516fac0ff81b5dfcce5c8180a845"), looks := false }, told := true, goes := false }
def LawS2819AReadToldSaid : Prop := Claim7.holds Ybaf.pinned (.plain (OpenSpec.ofChange lawS2819AReadSpec)) lawS2819AReadCard
/-- ITS FALSE NEIGHBOUR. Refute it at one input. -/
def LawS2819AReadToldWrongFalsely : Prop := Claim7.holds Ybaf.pinned (.plain (OpenSpec.ofChange lawS2819AReadWrong)) lawS2819AReadCard

/-- THE TOLD CARD OF 'activation.LawS2819AValid'. -/
def lawS2819AValidCard : Claim7 := { stood := { row := lawS2819AValidRow, standIns := [], harness := (true, "629d8b5570ffae65b1cdb52e43b3dafc18e2516fac0ff81b5dfcce5c8180a845"), looks := false }, told := true, goes := false }
def LawS2819AValidToldSaid : Prop := Claim7.holds Ybaf.pinned (.plain (OpenSpec.ofChange lawS2819AValidSpec)) lawS2819AValidCard
/-- ITS FALSE NEIGHBOUR. Refute it at one input. -/
def LawS2819AValidToldWrongFalsely : Prop := Claim7.holds Ybaf.pinned (.plain (OpenSpec.ofChange lawS2819AValidWrong)) lawS2819AValidCard
end Rows
end Go.Proofs.YbulkbfiyFmt

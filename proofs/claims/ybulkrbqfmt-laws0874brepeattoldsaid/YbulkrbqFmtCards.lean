/-
  DERIVED. GIVEN WITH THE SEED: THE CARDS: each row of YbulkrbqFmtRows.lean that lists a variable, with what it lists TIED to the program's text (the seventh form; the later family's looks); each row that meets fmt, with fmt's text TOLD by the authors' own Lean function (tested against real Go, not proved from fmt's source: count such statements apart). THE CARD IS WHAT COUNTS. Prove the row's statement (the work); the ties are given (YbulkrbqFmtTie.lean); close each card by the builder's one call (the guide's Derived/Test/ToyasCard.lean, 'card_holds'). Laid BY PROGRAM, IN A SANDBOX (cutbox-door.mjs). By AI agents, Wed Nov 11 2026. No macro, syntax, notation, axiom, sorry.
-/
import Derived.Test.YbulkrbqFmtRows
import GoSem.ClaimSeven
namespace Go.Proofs.YbulkrbqFmt
namespace Rows

/-- THE TOLD CARD OF 'arena.LawS0874BGate'. -/
def lawS0874BGateCard : Claim7 := { stood := { row := lawS0874BGateRow, standIns := [], harness := (true, "5a7d6fc71ed69570e32060f8f13598246e336e91c6aceac8c040d3efcf1ddfcf"), looks := false }, told := true, goes := false }
def LawS0874BGateToldSaid : Prop := Claim7.holds Ybaf.pinned (.plain (OpenSpec.ofChange lawS0874BGateSpec)) lawS0874BGateCard
/-- ITS FALSE NEIGHBOUR. Refute it at one input. -/
def LawS0874BGateToldWrongFalsely : Prop := Claim7.holds Ybaf.pinned (.plain (OpenSpec.ofChange lawS0874BGateWrong)) lawS0874BGateCard

/-- THE TOLD CARD OF 'arena.LawS0874BRepeat'. -/
def lawS0874BRepeatCard : Claim7 := { stood := { row := lawS0874BRepeatRow, standIns := [], harness := (true, "5a7d6fc71ed69570e32060f8f13598246e336e91c6aceac8c040d3efcf1ddfcf"), looks := false }, told := true, goes := false }
def LawS0874BRepeatToldSaid : Prop := Claim7.holds Ybaf.pinned (.plain (OpenSpec.ofChange lawS0874BRepeatSpec)) lawS0874BRepeatCard
/-- ITS FALSE NEIGHBOUR. Refute it at one input. -/
def LawS0874BRepeatToldWrongFalsely : Prop := Claim7.holds Ybaf.pinned (.plain (OpenSpec.ofChange lawS0874BRepeatWrong)) lawS0874BRepeatCard
end Rows
end Go.Proofs.YbulkrbqFmt

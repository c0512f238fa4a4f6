/-
  DERIVED. GIVEN WITH THE SEED: THE CARDS: each row of YbulkrewDoorRows.lean that lists a variable, with what it lists TIED to the program's text (the seventh form; the later family's looks); each row that meets fmt, with fmt's text TOLD by the authors' own Lean function (tested against real Go, not proved from fmt's source: count such statements apart). THE CARD IS WHAT COUNTS. Prove the row's statement (the work); the ties are given (YbulkrewDoorTie.lean); close each card by the builder's one call (the guide's Derived/Test/ToyasCard.lean, 'card_holds'). Laid BY PROGRAM, IN A SANDBOX (cutbox-door.mjs). By AI agents, Wed Nov 11 2026. No macro, syntax, notation, axiom, sorry.
-/
import Derived.Test.YbulkrewDoorRows
import GoSem.ClaimSeven
namespace Go.Proofs.YbulkrewDoor
namespace Rows

/-- THE TIED CARD OF 'jsonscan.LawS0880AModel'. -/
def lawS0880AModelCard : Claim7 := { stood := { row := lawS0880AModelRow, standIns := [], harness := (true, "7512e08c7393106ad5ce5d67067fcc3344e5aae9035150ec15926da2df650bb8"), looks := false }, kinds := [], alts := [], laidByText := true, laidKinds := [.data], laidTests := true, laidLooks := .later }
def LawS0880AModelCardSaid : Prop := Claim7.holds Ybad.pinned (.plain (OpenSpec.ofChange lawS0880AModelSpec)) lawS0880AModelCard

/-- THE TIED CARD OF 'jsonscan.LawS0880APlainLen'. -/
def lawS0880APlainLenCard : Claim7 := { stood := { row := lawS0880APlainLenRow, standIns := [], harness := (true, "7512e08c7393106ad5ce5d67067fcc3344e5aae9035150ec15926da2df650bb8"), looks := false }, kinds := [], alts := [], laidByText := true, laidKinds := [.data], laidTests := true, laidLooks := .later }
def LawS0880APlainLenCardSaid : Prop := Claim7.holds Ybad.pinned (.plain (OpenSpec.ofChange lawS0880APlainLenSpec)) lawS0880APlainLenCard
end Rows
end Go.Proofs.YbulkrewDoor

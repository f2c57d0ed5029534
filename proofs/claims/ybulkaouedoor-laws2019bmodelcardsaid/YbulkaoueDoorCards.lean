/-
  DERIVED. GIVEN WITH THE SEED: THE CARDS: each row of YbulkaoueDoorRows.lean that lists a variable, with what it lists TIED to the program's text (the seventh form; the later family's looks); each row that meets fmt, with fmt's text TOLD by the authors' own Lean function (tested against real Go, not proved from fmt's source: count such statements apart). THE CARD IS WHAT COUNTS. Prove the row's statement (the work); the ties are given (YbulkaoueDoorTie.lean); close each card by the builder's one call (the guide's Derived/Test/ToyasCard.lean, 'card_holds'). Laid BY PROGRAM, IN A SANDBOX (cutbox-door.mjs). By AI agents, Wed Nov 11 2026. No macro, syntax, notation, axiom, sorry.
-/
import Derived.Test.YbulkaoueDoorRows
import GoSem.ClaimSeven
namespace Go.Proofs.YbulkaoueDoor
namespace Rows

/-- THE TIED CARD OF 'tags-to-text.LawS2019BModel'. -/
def lawS2019BModelCard : Claim7 := { stood := { row := lawS2019BModelRow, standIns := [], harness := (true, "9e32a4f44bb0d354246e7b5448603b5f2c2adbd95f4be8f086a7a1d3bc0b5140"), looks := false }, kinds := [], alts := [], laidByText := true, laidKinds := [.data], laidTests := true, laidLooks := .later }
def LawS2019BModelCardSaid : Prop := Claim7.holds Ybad.pinned (.plain (OpenSpec.ofChange lawS2019BModelSpec)) lawS2019BModelCard

/-- THE TIED CARD OF 'tags-to-text.LawS2019BSplit'. -/
def lawS2019BSplitCard : Claim7 := { stood := { row := lawS2019BSplitRow, standIns := [], harness := (true, "9e32a4f44bb0d354246e7b5448603b5f2c2adbd95f4be8f086a7a1d3bc0b5140"), looks := false }, kinds := [], alts := [], laidByText := true, laidKinds := [.data], laidTests := true, laidLooks := .later }
def LawS2019BSplitCardSaid : Prop := Claim7.holds Ybad.pinned (.plain (OpenSpec.ofChange lawS2019BSplitSpec)) lawS2019BSplitCard
end Rows
end Go.Proofs.YbulkaoueDoor

/-
  DERIVED. GIVEN WITH THE SEED: THE CARDS: each row of YbulkaozoDoorRows.lean that lists a variable, with what it lists TIED to the program's text (the seventh form; the later family's looks); each row that meets fmt, with fmt's text TOLD by the authors' own Lean function (tested against real Go, not proved from fmt's source: count such statements apart). THE CARD IS WHAT COUNTS. Prove the row's statement (the work); the ties are given (YbulkaozoDoorTie.lean); close each card by the builder's one call (the guide's Derived/Test/ToyasCard.lean, 'card_holds'). Laid BY PROGRAM, IN A SANDBOX (cutbox-door.mjs). By AI agents, Wed Nov 11 2026. No macro, syntax, notation, axiom, sorry.
-/
import Derived.Test.YbulkaozoDoorRows
import GoSem.ClaimSeven
namespace Go.Proofs.YbulkaozoDoor
namespace Rows

/-- THE TIED CARD OF 'lang.LawS2029CSpelling'. -/
def lawS2029CSpellingCard : Claim7 := { stood := { row := lawS2029CSpellingRow, standIns := [], harness := (true, "6f1f92fe28faedacf4094ac3c5a64c025ac255186301106191e705d9cbf02fc7"), looks := false }, kinds := [], alts := [], laidByText := true, laidKinds := [.wider], laidTests := true, laidLooks := .later }
def LawS2029CSpellingCardSaid : Prop := Claim7.holds Ybad.pinned (.plain (OpenSpec.ofChange lawS2029CSpellingSpec)) lawS2029CSpellingCard
end Rows
end Go.Proofs.YbulkaozoDoor

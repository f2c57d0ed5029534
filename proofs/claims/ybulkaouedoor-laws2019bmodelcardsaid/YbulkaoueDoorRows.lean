/-
  NARROWER THAN 'FOR EVERY INPUT', by the rows' own cells (each row's printed sentence says how): LawS2019BModel: laid · LawS2019BSplit: laid.
  DERIVED. THE GIVEN ROWS OF THIS SEAT. 2 by the template 'for every input the law returns true; each argument reads behind the call as it read before'; 0 by the template 'total and deterministic' (their statements: YbulkaoueDoorTotals.lean).
  GIVEN WITH THE SEED: the statements are not yours to turn. If you find one false, say at which input.
  Laid BY PROGRAM, IN A SANDBOX (cutbox-rows.mjs): the forced cells as the released guide's own fill.sh prints them over the translation def66309a1457a3d… (all of the seat's roots in one cut). By AI agents, Wed Nov 11 2026. No macro, syntax, notation, axiom, sorry.
-/
import Derived.Test.YbulkaoueDoorChecked
import GoSem.Claim
import GoSem.ClaimJoined
import GoSem.ClaimMapViews
import Derived.JoinedTies
import Derived.KernelRfl
namespace Go.Proofs.YbulkaoueDoor
/- THE CELL 'sum', in the pinned program and in every row, IS THE sha256 OF THE DUMP (.gsa) THAT YbulkaoueDoorProg.lean LOADS. Nothing in Lean hashes anything: it is a label: what it is worth is what the hold of that sum in a sandbox is worth. -/
noncomputable def Ybad.pinned : Pinned := { name := "ybulkaouedoor", sum := "def66309a1457a3de100c51f073ca627df842b473ce6db8dc430863a52400514", checked := Ybad.checked }
namespace Rows
def none {H : Type} : Left H := { results := [], args := [] }

/- WHAT THE LISTED PACKAGE-LEVEL VARIABLES READ AS WHEN THE CALL BEGINS. Each datum BY PROGRAM (the guide's laid-datum.mjs) off the statement by which the dump's own 'gosem.cut.vars' lays the variable. In a bare row this is a premise. The card (YbulkaoueDoorCards.lean) ties it to the program's text. -/
def laid_example_com_tags_to_text_tags_to_text_htmlEntities {H : Type} : DataW H := .agg [.lit (.string []), .lit (.string []), .lit (.string []), .lit (.string []), .lit (.string []), .lit (.string []), .lit (.string []), .lit (.string []), .lit (.string []), .lit (.string []), .lit (.string []), .lit (.string []), .lit (.string []), .lit (.string []), .lit (.string []), .lit (.string []), .lit (.string []), .lit (.string []), .lit (.string []), .lit (.string []), .lit (.string []), .lit (.string []), .lit (.string []), .lit (.string []), .lit (.string []), .lit (.string []), .lit (.string []), .lit (.string []), .lit (.string []), .lit (.string []), .lit (.string []), .lit (.string []), .lit (.string []), .lit (.string []), .lit (.string [38, 113, 117, 111, 116, 59]), .lit (.string []), .lit (.string []), .lit (.string []), .lit (.string [38, 97, 109, 112, 59]), .lit (.string [38, 35, 51, 57, 59]), .lit (.string []), .lit (.string []), .lit (.string []), .lit (.string []), .lit (.string []), .lit (.string []), .lit (.string []), .lit (.string []), .lit (.string []), .lit (.string []), .lit (.string []), .lit (.string []), .lit (.string []), .lit (.string []), .lit (.string []), .lit (.string []), .lit (.string []), .lit (.string []), .lit (.string []), .lit (.string []), .lit (.string [38, 108, 116, 59]), .lit (.string []), .lit (.string [38, 103, 116, 59]), .lit (.string []), .lit (.string []), .lit (.string []), .lit (.string []), .lit (.string []), .lit (.string []), .lit (.string []), .lit (.string []), .lit (.string []), .lit (.string []), .lit (.string []), .lit (.string []), .lit (.string []), .lit (.string []), .lit (.string []), .lit (.string []), .lit (.string []), .lit (.string []), .lit (.string []), .lit (.string []), .lit (.string []), .lit (.string []), .lit (.string []), .lit (.string []), .lit (.string []), .lit (.string []), .lit (.string []), .lit (.string []), .lit (.string []), .lit (.string []), .lit (.string []), .lit (.string []), .lit (.string []), .lit (.string []), .lit (.string []), .lit (.string []), .lit (.string []), .lit (.string []), .lit (.string []), .lit (.string []), .lit (.string []), .lit (.string []), .lit (.string []), .lit (.string []), .lit (.string []), .lit (.string []), .lit (.string []), .lit (.string []), .lit (.string []), .lit (.string []), .lit (.string []), .lit (.string []), .lit (.string []), .lit (.string []), .lit (.string []), .lit (.string []), .lit (.string []), .lit (.string []), .lit (.string []), .lit (.string []), .lit (.string []), .lit (.string []), .lit (.string []), .lit (.string []), .lit (.string []), .lit (.string []), .lit (.string []), .lit (.string []), .lit (.string []), .lit (.string []), .lit (.string []), .lit (.string []), .lit (.string []), .lit (.string []), .lit (.string []), .lit (.string []), .lit (.string []), .lit (.string []), .lit (.string []), .lit (.string []), .lit (.string []), .lit (.string []), .lit (.string []), .lit (.string []), .lit (.string []), .lit (.string []), .lit (.string []), .lit (.string []), .lit (.string []), .lit (.string []), .lit (.string []), .lit (.string []), .lit (.string []), .lit (.string []), .lit (.string []), .lit (.string []), .lit (.string []), .lit (.string []), .lit (.string []), .lit (.string []), .lit (.string []), .lit (.string []), .lit (.string []), .lit (.string []), .lit (.string []), .lit (.string []), .lit (.string []), .lit (.string []), .lit (.string []), .lit (.string []), .lit (.string []), .lit (.string []), .lit (.string []), .lit (.string []), .lit (.string []), .lit (.string []), .lit (.string []), .lit (.string []), .lit (.string []), .lit (.string []), .lit (.string []), .lit (.string []), .lit (.string []), .lit (.string []), .lit (.string []), .lit (.string []), .lit (.string []), .lit (.string []), .lit (.string []), .lit (.string []), .lit (.string []), .lit (.string []), .lit (.string []), .lit (.string []), .lit (.string []), .lit (.string []), .lit (.string []), .lit (.string []), .lit (.string []), .lit (.string []), .lit (.string []), .lit (.string []), .lit (.string []), .lit (.string []), .lit (.string []), .lit (.string []), .lit (.string []), .lit (.string []), .lit (.string []), .lit (.string []), .lit (.string []), .lit (.string []), .lit (.string []), .lit (.string []), .lit (.string []), .lit (.string []), .lit (.string []), .lit (.string []), .lit (.string []), .lit (.string []), .lit (.string []), .lit (.string []), .lit (.string []), .lit (.string []), .lit (.string []), .lit (.string []), .lit (.string []), .lit (.string []), .lit (.string []), .lit (.string []), .lit (.string []), .lit (.string []), .lit (.string []), .lit (.string []), .lit (.string []), .lit (.string []), .lit (.string []), .lit (.string []), .lit (.string []), .lit (.string []), .lit (.string []), .lit (.string []), .lit (.string []), .lit (.string []), .lit (.string []), .lit (.string []), .lit (.string []), .lit (.string []), .lit (.string []), .lit (.string []), .lit (.string []), .lit (.string []), .lit (.string [])]

/-- 'tags-to-text.LawS2019BModel': WHATEVER THE INPUT: true; the input reads as it did. -/
def lawS2019BModelSpec : ChangeSpec := { name := "lawS2019BModel", vars := ["example.com/tags-to-text/tags-to-text.htmlEntities"], fn := fun _ => fun
  | [d1, d2, g1] => { results := [.lit (.bool true)], args := [d1, d2], vars := [g1] }
  | _ => none }
def lawS2019BModelRow : OpenClaim := { program := "ybulkaouedoor", sum := "def66309a1457a3de100c51f073ca627df842b473ce6db8dc430863a52400514", func := "example.com/tags-to-text/tags-to-text.LawS2019BModel", spec := "lawS2019BModel", named := ["example.com/tags-to-text/tags-to-text.htmlEntities"], apart := false, laid := [("example.com/tags-to-text/tags-to-text.htmlEntities", laid_example_com_tags_to_text_tags_to_text_htmlEntities)] }
def LawS2019BModelSaid : Prop := lawS2019BModelRow.holds Ybad.pinned (OpenSpec.ofChange lawS2019BModelSpec)

/-- ITS FALSE NEIGHBOUR: 'it returns false'. Refute it at one input. -/
def lawS2019BModelWrong : ChangeSpec := { name := "lawS2019BModel", vars := ["example.com/tags-to-text/tags-to-text.htmlEntities"], fn := fun _ => fun
  | [d1, d2, g1] => { results := [.lit (.bool false)], args := [d1, d2], vars := [g1] }
  | _ => none }
def LawS2019BModelWrongFalsely : Prop := lawS2019BModelRow.holds Ybad.pinned (OpenSpec.ofChange lawS2019BModelWrong)

/-- 'tags-to-text.LawS2019BSplit': WHATEVER THE INPUT: true; the input reads as it did. -/
def lawS2019BSplitSpec : ChangeSpec := { name := "lawS2019BSplit", vars := ["example.com/tags-to-text/tags-to-text.htmlEntities"], fn := fun _ => fun
  | [d1, d2, d3, g1] => { results := [.lit (.bool true)], args := [d1, d2, d3], vars := [g1] }
  | _ => none }
def lawS2019BSplitRow : OpenClaim := { program := "ybulkaouedoor", sum := "def66309a1457a3de100c51f073ca627df842b473ce6db8dc430863a52400514", func := "example.com/tags-to-text/tags-to-text.LawS2019BSplit", spec := "lawS2019BSplit", named := ["example.com/tags-to-text/tags-to-text.htmlEntities"], apart := false, laid := [("example.com/tags-to-text/tags-to-text.htmlEntities", laid_example_com_tags_to_text_tags_to_text_htmlEntities)] }
def LawS2019BSplitSaid : Prop := lawS2019BSplitRow.holds Ybad.pinned (OpenSpec.ofChange lawS2019BSplitSpec)

/-- ITS FALSE NEIGHBOUR: 'it returns false'. Refute it at one input. -/
def lawS2019BSplitWrong : ChangeSpec := { name := "lawS2019BSplit", vars := ["example.com/tags-to-text/tags-to-text.htmlEntities"], fn := fun _ => fun
  | [d1, d2, d3, g1] => { results := [.lit (.bool false)], args := [d1, d2, d3], vars := [g1] }
  | _ => none }
def LawS2019BSplitWrongFalsely : Prop := lawS2019BSplitRow.holds Ybad.pinned (OpenSpec.ofChange lawS2019BSplitWrong)

end Rows
end Go.Proofs.YbulkaoueDoor

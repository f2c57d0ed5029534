/-
  NARROWER THAN 'FOR EVERY INPUT', by the rows' own cells (each row's printed sentence says how): LawS2029CSpelling: laid.
  DERIVED. THE GIVEN ROWS OF THIS SEAT. 1 by the template 'for every input the law returns true; each argument reads behind the call as it read before'; 0 by the template 'total and deterministic' (their statements: YbulkaozoDoorTotals.lean).
  GIVEN WITH THE SEED: the statements are not yours to turn. If you find one false, say at which input.
  Laid BY PROGRAM, IN A SANDBOX (cutbox-rows.mjs): the forced cells as the released guide's own fill.sh prints them over the translation 59b6695914ffc934… (all of the seat's roots in one cut). By AI agents, Wed Nov 11 2026. No macro, syntax, notation, axiom, sorry.
-/
import Derived.Test.YbulkaozoDoorChecked
import GoSem.Claim
import GoSem.ClaimJoined
import GoSem.ClaimMapViews
import Derived.JoinedTies
import Derived.KernelRfl
namespace Go.Proofs.YbulkaozoDoor
/- THE CELL 'sum', in the pinned program and in every row, IS THE sha256 OF THE DUMP (.gsa) THAT YbulkaozoDoorProg.lean LOADS. Nothing in Lean hashes anything: it is a label: what it is worth is what the hold of that sum in a sandbox is worth. -/
noncomputable def Ybad.pinned : Pinned := { name := "ybulkaozodoor", sum := "59b6695914ffc9349fa83d34fa892b2d5e0f3a428f552464daed65b958577038", checked := Ybad.checked }
namespace Rows
def none {H : Type} : Left H := { results := [], args := [] }

/- WHAT THE LISTED PACKAGE-LEVEL VARIABLES READ AS WHEN THE CALL BEGINS. Each datum BY PROGRAM (the guide's laid-datum.mjs) off the statement by which the dump's own 'gosem.cut.vars' lays the variable. In a bare row this is a premise. The card (YbulkaozoDoorCards.lean) ties it to the program's text. -/
def laid_example_com_tallyline_tallyline_lang_binaryOps {H : Type} : DataW H := .agg [.agg [.lit (.string [124, 124]), .lit (.int .i64 1), .lit (.bool false), .lit (.int .i64 0)], .agg [.lit (.string [38, 38]), .lit (.int .i64 2), .lit (.bool false), .lit (.int .i64 0)], .agg [.lit (.string [124]), .lit (.int .i64 3), .lit (.bool false), .lit (.int .i64 4)], .agg [.lit (.string [94]), .lit (.int .i64 4), .lit (.bool false), .lit (.int .i64 4)], .agg [.lit (.string [38]), .lit (.int .i64 5), .lit (.bool false), .lit (.int .i64 4)], .agg [.lit (.string [61, 61]), .lit (.int .i64 6), .lit (.bool false), .lit (.int .i64 1)], .agg [.lit (.string [33, 61]), .lit (.int .i64 6), .lit (.bool false), .lit (.int .i64 1)], .agg [.lit (.string [61, 126]), .lit (.int .i64 6), .lit (.bool false), .lit (.int .i64 2)], .agg [.lit (.string [33, 126]), .lit (.int .i64 6), .lit (.bool false), .lit (.int .i64 2)], .agg [.lit (.string [60]), .lit (.int .i64 7), .lit (.bool false), .lit (.int .i64 1)], .agg [.lit (.string [60, 61]), .lit (.int .i64 7), .lit (.bool false), .lit (.int .i64 1)], .agg [.lit (.string [62]), .lit (.int .i64 7), .lit (.bool false), .lit (.int .i64 1)], .agg [.lit (.string [62, 61]), .lit (.int .i64 7), .lit (.bool false), .lit (.int .i64 1)], .agg [.lit (.string [60, 60]), .lit (.int .i64 8), .lit (.bool false), .lit (.int .i64 4)], .agg [.lit (.string [62, 62]), .lit (.int .i64 8), .lit (.bool false), .lit (.int .i64 4)], .agg [.lit (.string [43]), .lit (.int .i64 9), .lit (.bool false), .lit (.int .i64 3)], .agg [.lit (.string [45]), .lit (.int .i64 9), .lit (.bool false), .lit (.int .i64 3)], .agg [.lit (.string [42]), .lit (.int .i64 10), .lit (.bool false), .lit (.int .i64 3)], .agg [.lit (.string [47]), .lit (.int .i64 10), .lit (.bool false), .lit (.int .i64 3)], .agg [.lit (.string [37]), .lit (.int .i64 10), .lit (.bool false), .lit (.int .i64 3)], .agg [.lit (.string [42, 42]), .lit (.int .i64 11), .lit (.bool true), .lit (.int .i64 3)]]

/-- 'lang.LawS2029CSpelling': WHATEVER THE INPUT: true; the input reads as it did. -/
def lawS2029CSpellingSpec : ChangeSpec := { name := "lawS2029CSpelling", vars := ["example.com/tallyline/tallyline/lang.binaryOps"], fn := fun _ => fun
  | [d1, d2, d3, d4, d5, g1] => { results := [.lit (.bool true)], args := [d1, d2, d3, d4, d5], vars := [g1] }
  | _ => none }
def lawS2029CSpellingRow : OpenClaim := { program := "ybulkaozodoor", sum := "59b6695914ffc9349fa83d34fa892b2d5e0f3a428f552464daed65b958577038", func := "example.com/tallyline/tallyline/lang.LawS2029CSpelling", spec := "lawS2029CSpelling", named := ["example.com/tallyline/tallyline/lang.binaryOps"], apart := false, laid := [("example.com/tallyline/tallyline/lang.binaryOps", laid_example_com_tallyline_tallyline_lang_binaryOps)] }
def LawS2029CSpellingSaid : Prop := lawS2029CSpellingRow.holds Ybad.pinned (OpenSpec.ofChange lawS2029CSpellingSpec)

/-- ITS FALSE NEIGHBOUR: 'it returns false'. Refute it at one input. -/
def lawS2029CSpellingWrong : ChangeSpec := { name := "lawS2029CSpelling", vars := ["example.com/tallyline/tallyline/lang.binaryOps"], fn := fun _ => fun
  | [d1, d2, d3, d4, d5, g1] => { results := [.lit (.bool false)], args := [d1, d2, d3, d4, d5], vars := [g1] }
  | _ => none }
def LawS2029CSpellingWrongFalsely : Prop := lawS2029CSpellingRow.holds Ybad.pinned (OpenSpec.ofChange lawS2029CSpellingWrong)

end Rows
end Go.Proofs.YbulkaozoDoor

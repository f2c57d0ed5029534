/-
  No cell of these rows narrows 'for every input' (looked for: loops, veiled, ifaces, maps, wideKeys, modest, calm, conditions, laid).
  DERIVED. THE GIVEN ROWS OF THIS SEAT. 4 by the template 'for every input the law returns true; each argument reads behind the call as it read before'; 0 by the template 'total and deterministic' (their statements: YbulkaoqkTotals.lean).
  GIVEN WITH THE SEED: the statements are not yours to turn. If you find one false, say at which input.
  Laid BY PROGRAM, IN A SANDBOX (cutbox-rows.mjs): the forced cells as the released guide's own fill.sh prints them over the translation 2d62da0cc2810296… (all of the seat's roots in one cut). By AI agents, Wed Nov 11 2026. No macro, syntax, notation, axiom, sorry.
-/
import Derived.Test.YbulkaoqkChecked
import GoSem.Claim
import GoSem.ClaimJoined
import GoSem.ClaimMapViews
import Derived.JoinedTies
import Derived.KernelRfl
namespace Go.Proofs.Ybulkaoqk
/- THE CELL 'sum', in the pinned program and in every row, IS THE sha256 OF THE DUMP (.gsa) THAT YbulkaoqkProg.lean LOADS. Nothing in Lean hashes anything: it is a label: what it is worth is what the hold of that sum in a sandbox is worth. -/
noncomputable def Yba.pinned : Pinned := { name := "ybulkaoqk", sum := "2d62da0cc2810296b029f59d2ba35856bc05c579fbd8f6ed9e7767cb1386805a", checked := Yba.checked }
namespace Rows
def none {H : Type} : Left H := { results := [], args := [] }

/-- 'contextwright.LawS2012AExact': WHATEVER THE INPUT: true; the input reads as it did. -/
def lawS2012AExactSpec : ChangeSpec := { name := "lawS2012AExact", fn := fun _ => fun
  | [d1, d2, d3] => { results := [.lit (.bool true)], args := [d1, d2, d3] }
  | _ => none }
def lawS2012AExactRow : OpenClaim := { program := "ybulkaoqk", sum := "2d62da0cc2810296b029f59d2ba35856bc05c579fbd8f6ed9e7767cb1386805a", func := "example.com/contextwright/contextwright.LawS2012AExact", spec := "lawS2012AExact", apart := false }
def LawS2012AExactSaid : Prop := lawS2012AExactRow.holds Yba.pinned (OpenSpec.ofChange lawS2012AExactSpec)

/-- ITS FALSE NEIGHBOUR: 'it returns false'. Refute it at one input. -/
def lawS2012AExactWrong : ChangeSpec := { name := "lawS2012AExact", fn := fun _ => fun
  | [d1, d2, d3] => { results := [.lit (.bool false)], args := [d1, d2, d3] }
  | _ => none }
def LawS2012AExactWrongFalsely : Prop := lawS2012AExactRow.holds Yba.pinned (OpenSpec.ofChange lawS2012AExactWrong)

/-- 'contextwright.LawS2012APrefix': WHATEVER THE INPUT: true; the input reads as it did. -/
def lawS2012APrefixSpec : ChangeSpec := { name := "lawS2012APrefix", fn := fun _ => fun
  | [d1, d2, d3] => { results := [.lit (.bool true)], args := [d1, d2, d3] }
  | _ => none }
def lawS2012APrefixRow : OpenClaim := { program := "ybulkaoqk", sum := "2d62da0cc2810296b029f59d2ba35856bc05c579fbd8f6ed9e7767cb1386805a", func := "example.com/contextwright/contextwright.LawS2012APrefix", spec := "lawS2012APrefix", apart := false }
def LawS2012APrefixSaid : Prop := lawS2012APrefixRow.holds Yba.pinned (OpenSpec.ofChange lawS2012APrefixSpec)

/-- ITS FALSE NEIGHBOUR: 'it returns false'. Refute it at one input. -/
def lawS2012APrefixWrong : ChangeSpec := { name := "lawS2012APrefix", fn := fun _ => fun
  | [d1, d2, d3] => { results := [.lit (.bool false)], args := [d1, d2, d3] }
  | _ => none }
def LawS2012APrefixWrongFalsely : Prop := lawS2012APrefixRow.holds Yba.pinned (OpenSpec.ofChange lawS2012APrefixWrong)

/-- 'contextwright.LawS2012BCopies': WHATEVER THE INPUT: true; the input reads as it did. -/
def lawS2012BCopiesSpec : ChangeSpec := { name := "lawS2012BCopies", fn := fun _ => fun
  | [d1, d2] => { results := [.lit (.bool true)], args := [d1, d2] }
  | _ => none }
def lawS2012BCopiesRow : OpenClaim := { program := "ybulkaoqk", sum := "2d62da0cc2810296b029f59d2ba35856bc05c579fbd8f6ed9e7767cb1386805a", func := "example.com/contextwright/contextwright.LawS2012BCopies", spec := "lawS2012BCopies", apart := false }
def LawS2012BCopiesSaid : Prop := lawS2012BCopiesRow.holds Yba.pinned (OpenSpec.ofChange lawS2012BCopiesSpec)

/-- ITS FALSE NEIGHBOUR: 'it returns false'. Refute it at one input. -/
def lawS2012BCopiesWrong : ChangeSpec := { name := "lawS2012BCopies", fn := fun _ => fun
  | [d1, d2] => { results := [.lit (.bool false)], args := [d1, d2] }
  | _ => none }
def LawS2012BCopiesWrongFalsely : Prop := lawS2012BCopiesRow.holds Yba.pinned (OpenSpec.ofChange lawS2012BCopiesWrong)

/-- 'contextwright.LawS2012BKeepsReceiver': WHATEVER THE INPUT: true; the input reads as it did. -/
def lawS2012BKeepsReceiverSpec : ChangeSpec := { name := "lawS2012BKeepsReceiver", fn := fun _ => fun
  | [d] => { results := [.lit (.bool true)], args := [d] }
  | _ => none }
def lawS2012BKeepsReceiverRow : OpenClaim := { program := "ybulkaoqk", sum := "2d62da0cc2810296b029f59d2ba35856bc05c579fbd8f6ed9e7767cb1386805a", func := "example.com/contextwright/contextwright.LawS2012BKeepsReceiver", spec := "lawS2012BKeepsReceiver", apart := false }
def LawS2012BKeepsReceiverSaid : Prop := lawS2012BKeepsReceiverRow.holds Yba.pinned (OpenSpec.ofChange lawS2012BKeepsReceiverSpec)

/-- ITS FALSE NEIGHBOUR: 'it returns false'. Refute it at one input. -/
def lawS2012BKeepsReceiverWrong : ChangeSpec := { name := "lawS2012BKeepsReceiver", fn := fun _ => fun
  | [d] => { results := [.lit (.bool false)], args := [d] }
  | _ => none }
def LawS2012BKeepsReceiverWrongFalsely : Prop := lawS2012BKeepsReceiverRow.holds Yba.pinned (OpenSpec.ofChange lawS2012BKeepsReceiverWrong)

end Rows
end Go.Proofs.Ybulkaoqk

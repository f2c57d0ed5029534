/-
  No cell of these rows narrows 'for every input' (looked for: loops, veiled, ifaces, maps, wideKeys, modest, calm, conditions, laid).
  DERIVED. THE GIVEN ROWS OF THIS SEAT. 2 by the template 'for every input the law returns true; each argument reads behind the call as it read before'; 0 by the template 'total and deterministic' (their statements: YbulkapcuTotals.lean).
  GIVEN WITH THE SEED: the statements are not yours to turn. If you find one false, say at which input.
  Laid BY PROGRAM, IN A SANDBOX (cutbox-rows.mjs): the forced cells as the released guide's own fill.sh prints them over the translation 716475656c110a47… (all of the seat's roots in one cut). By AI agents, Wed Nov 11 2026. No macro, syntax, notation, axiom, sorry.
-/
import Derived.Test.YbulkapcuChecked
import GoSem.Claim
import GoSem.ClaimJoined
import GoSem.ClaimMapViews
import Derived.JoinedTies
import Derived.KernelRfl
namespace Go.Proofs.Ybulkapcu
/- THE CELL 'sum', in the pinned program and in every row, IS THE sha256 OF THE DUMP (.gsa) THAT YbulkapcuProg.lean LOADS. Nothing in Lean hashes anything: it is a label: what it is worth is what the hold of that sum in a sandbox is worth. -/
noncomputable def Yba.pinned : Pinned := { name := "ybulkapcu", sum := "716475656c110a474662297d6e3f48d5c61377181e3b08af3bdccd06eebd9b09", checked := Yba.checked }
namespace Rows
def none {H : Type} : Left H := { results := [], args := [] }

/-- 'namepost.LawS2035AFirstKept': WHATEVER THE INPUT: true; the input reads as it did. -/
def lawS2035AFirstKeptSpec : ChangeSpec := { name := "lawS2035AFirstKept", fn := fun _ => fun
  | [d1, d2] => { results := [.lit (.bool true)], args := [d1, d2] }
  | _ => none }
def lawS2035AFirstKeptRow : OpenClaim := { program := "ybulkapcu", sum := "716475656c110a474662297d6e3f48d5c61377181e3b08af3bdccd06eebd9b09", func := "example.com/namepost/namepost.LawS2035AFirstKept", spec := "lawS2035AFirstKept", apart := false }
def LawS2035AFirstKeptSaid : Prop := lawS2035AFirstKeptRow.holds Yba.pinned (OpenSpec.ofChange lawS2035AFirstKeptSpec)

/-- ITS FALSE NEIGHBOUR: 'it returns false'. Refute it at one input. -/
def lawS2035AFirstKeptWrong : ChangeSpec := { name := "lawS2035AFirstKept", fn := fun _ => fun
  | [d1, d2] => { results := [.lit (.bool false)], args := [d1, d2] }
  | _ => none }
def LawS2035AFirstKeptWrongFalsely : Prop := lawS2035AFirstKeptRow.holds Yba.pinned (OpenSpec.ofChange lawS2035AFirstKeptWrong)

/-- 'namepost.LawS2035AOneStep': WHATEVER THE INPUT: true; the input reads as it did. -/
def lawS2035AOneStepSpec : ChangeSpec := { name := "lawS2035AOneStep", fn := fun _ => fun
  | [d1, d2] => { results := [.lit (.bool true)], args := [d1, d2] }
  | _ => none }
def lawS2035AOneStepRow : OpenClaim := { program := "ybulkapcu", sum := "716475656c110a474662297d6e3f48d5c61377181e3b08af3bdccd06eebd9b09", func := "example.com/namepost/namepost.LawS2035AOneStep", spec := "lawS2035AOneStep", apart := false }
def LawS2035AOneStepSaid : Prop := lawS2035AOneStepRow.holds Yba.pinned (OpenSpec.ofChange lawS2035AOneStepSpec)

/-- ITS FALSE NEIGHBOUR: 'it returns false'. Refute it at one input. -/
def lawS2035AOneStepWrong : ChangeSpec := { name := "lawS2035AOneStep", fn := fun _ => fun
  | [d1, d2] => { results := [.lit (.bool false)], args := [d1, d2] }
  | _ => none }
def LawS2035AOneStepWrongFalsely : Prop := lawS2035AOneStepRow.holds Yba.pinned (OpenSpec.ofChange lawS2035AOneStepWrong)

end Rows
end Go.Proofs.Ybulkapcu

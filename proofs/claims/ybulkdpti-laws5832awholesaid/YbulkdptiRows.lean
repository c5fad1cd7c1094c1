/-
  No cell of these rows narrows 'for every input' (looked for: loops, veiled, ifaces, maps, wideKeys, modest, calm, conditions, laid).
  DERIVED. THE GIVEN ROWS OF THIS SEAT. 3 by the template 'for every input the law returns true; each argument reads behind the call as it read before'; 0 by the template 'total and deterministic' (their statements: YbulkdptiTotals.lean).
  GIVEN WITH THE SEED: the statements are not yours to turn. If you find one false, say at which input.
  Laid BY PROGRAM, IN A SANDBOX (cutbox-rows.mjs): the forced cells as the released guide's own fill.sh prints them over the translation 9963fa86bf61f1b5… (all of the seat's roots in one cut). By AI agents, Wed Nov 11 2026. No macro, syntax, notation, axiom, sorry.
-/
import Derived.Test.YbulkdptiChecked
import GoSem.Claim
import GoSem.ClaimJoined
import GoSem.ClaimMapViews
import Derived.JoinedTies
import Derived.KernelRfl
namespace Go.Proofs.Ybulkdpti
/- THE CELL 'sum', in the pinned program and in every row, IS THE sha256 OF THE DUMP (.gsa) THAT YbulkdptiProg.lean LOADS. Nothing in Lean hashes anything: it is a label: what it is worth is what the hold of that sum in a sandbox is worth. -/
noncomputable def Yba.pinned : Pinned := { name := "ybulkdpti", sum := "9963fa86bf61f1b5b561621dfb39442a0c3c628666acc3d96dcff418da560a0c", checked := Yba.checked }
namespace Rows
def none {H : Type} : Left H := { results := [], args := [] }

/-- 'tiaowen.LawS5832AWhole': WHATEVER THE INPUT: true; the input reads as it did. -/
def lawS5832AWholeSpec : ChangeSpec := { name := "lawS5832AWhole", fn := fun _ => fun
  | [d1, d2, d3, d4] => { results := [.lit (.bool true)], args := [d1, d2, d3, d4] }
  | _ => none }
def lawS5832AWholeRow : OpenClaim := { program := "ybulkdpti", sum := "9963fa86bf61f1b5b561621dfb39442a0c3c628666acc3d96dcff418da560a0c", func := "example.com/tiaowen/tiaowen.LawS5832AWhole", spec := "lawS5832AWhole", apart := false }
def LawS5832AWholeSaid : Prop := lawS5832AWholeRow.holds Yba.pinned (OpenSpec.ofChange lawS5832AWholeSpec)

/-- ITS FALSE NEIGHBOUR: 'it returns false'. Refute it at one input. -/
def lawS5832AWholeWrong : ChangeSpec := { name := "lawS5832AWhole", fn := fun _ => fun
  | [d1, d2, d3, d4] => { results := [.lit (.bool false)], args := [d1, d2, d3, d4] }
  | _ => none }
def LawS5832AWholeWrongFalsely : Prop := lawS5832AWholeRow.holds Yba.pinned (OpenSpec.ofChange lawS5832AWholeWrong)

/-- 'tiaowen.LawS5832CWhole': WHATEVER THE INPUT: true; the input reads as it did. -/
def lawS5832CWholeSpec : ChangeSpec := { name := "lawS5832CWhole", fn := fun _ => fun
  | [d] => { results := [.lit (.bool true)], args := [d] }
  | _ => none }
def lawS5832CWholeRow : OpenClaim := { program := "ybulkdpti", sum := "9963fa86bf61f1b5b561621dfb39442a0c3c628666acc3d96dcff418da560a0c", func := "example.com/tiaowen/tiaowen.LawS5832CWhole", spec := "lawS5832CWhole", apart := false }
def LawS5832CWholeSaid : Prop := lawS5832CWholeRow.holds Yba.pinned (OpenSpec.ofChange lawS5832CWholeSpec)

/-- ITS FALSE NEIGHBOUR: 'it returns false'. Refute it at one input. -/
def lawS5832CWholeWrong : ChangeSpec := { name := "lawS5832CWhole", fn := fun _ => fun
  | [d] => { results := [.lit (.bool false)], args := [d] }
  | _ => none }
def LawS5832CWholeWrongFalsely : Prop := lawS5832CWholeRow.holds Yba.pinned (OpenSpec.ofChange lawS5832CWholeWrong)

/-- 'tiaowen.LawS5832CBuilt': WHATEVER THE INPUT: true; the input reads as it did. -/
def lawS5832CBuiltSpec : ChangeSpec := { name := "lawS5832CBuilt", fn := fun _ => fun
  | [d1, d2, d3] => { results := [.lit (.bool true)], args := [d1, d2, d3] }
  | _ => none }
def lawS5832CBuiltRow : OpenClaim := { program := "ybulkdpti", sum := "9963fa86bf61f1b5b561621dfb39442a0c3c628666acc3d96dcff418da560a0c", func := "example.com/tiaowen/tiaowen.LawS5832CBuilt", spec := "lawS5832CBuilt", apart := false }
def LawS5832CBuiltSaid : Prop := lawS5832CBuiltRow.holds Yba.pinned (OpenSpec.ofChange lawS5832CBuiltSpec)

/-- ITS FALSE NEIGHBOUR: 'it returns false'. Refute it at one input. -/
def lawS5832CBuiltWrong : ChangeSpec := { name := "lawS5832CBuilt", fn := fun _ => fun
  | [d1, d2, d3] => { results := [.lit (.bool false)], args := [d1, d2, d3] }
  | _ => none }
def LawS5832CBuiltWrongFalsely : Prop := lawS5832CBuiltRow.holds Yba.pinned (OpenSpec.ofChange lawS5832CBuiltWrong)

end Rows
end Go.Proofs.Ybulkdpti

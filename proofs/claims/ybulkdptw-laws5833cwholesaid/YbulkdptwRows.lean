/-
  No cell of these rows narrows 'for every input' (looked for: loops, veiled, ifaces, maps, wideKeys, modest, calm, conditions, laid).
  DERIVED. THE GIVEN ROWS OF THIS SEAT. 2 by the template 'for every input the law returns true; each argument reads behind the call as it read before'; 0 by the template 'total and deterministic' (their statements: YbulkdptwTotals.lean).
  GIVEN WITH THE SEED: the statements are not yours to turn. If you find one false, say at which input.
  Laid BY PROGRAM, IN A SANDBOX (cutbox-rows.mjs): the forced cells as the released guide's own fill.sh prints them over the translation af46e2fe218b6ae8… (all of the seat's roots in one cut). By AI agents, Wed Nov 11 2026. No macro, syntax, notation, axiom, sorry.
-/
import Derived.Test.YbulkdptwChecked
import GoSem.Claim
import GoSem.ClaimJoined
import GoSem.ClaimMapViews
import Derived.JoinedTies
import Derived.KernelRfl
namespace Go.Proofs.Ybulkdptw
/- THE CELL 'sum', in the pinned program and in every row, IS THE sha256 OF THE DUMP (.gsa) THAT YbulkdptwProg.lean LOADS. Nothing in Lean hashes anything: it is a label: what it is worth is what the hold of that sum in a sandbox is worth. -/
noncomputable def Yba.pinned : Pinned := { name := "ybulkdptw", sum := "af46e2fe218b6ae830966ff3696d4b1943fe22597b9e7264ff7fecda48ae7ff8", checked := Yba.checked }
namespace Rows
def none {H : Type} : Left H := { results := [], args := [] }

/-- 'bitroot.LawS5833AWhole': WHATEVER THE INPUT: true; the input reads as it did. -/
def lawS5833AWholeSpec : ChangeSpec := { name := "lawS5833AWhole", fn := fun _ => fun
  | [d1, d2, d3] => { results := [.lit (.bool true)], args := [d1, d2, d3] }
  | _ => none }
def lawS5833AWholeRow : OpenClaim := { program := "ybulkdptw", sum := "af46e2fe218b6ae830966ff3696d4b1943fe22597b9e7264ff7fecda48ae7ff8", func := "example.com/bitroot/bitroot.LawS5833AWhole", spec := "lawS5833AWhole", apart := false }
def LawS5833AWholeSaid : Prop := lawS5833AWholeRow.holds Yba.pinned (OpenSpec.ofChange lawS5833AWholeSpec)

/-- ITS FALSE NEIGHBOUR: 'it returns false'. Refute it at one input. -/
def lawS5833AWholeWrong : ChangeSpec := { name := "lawS5833AWhole", fn := fun _ => fun
  | [d1, d2, d3] => { results := [.lit (.bool false)], args := [d1, d2, d3] }
  | _ => none }
def LawS5833AWholeWrongFalsely : Prop := lawS5833AWholeRow.holds Yba.pinned (OpenSpec.ofChange lawS5833AWholeWrong)

/-- 'bitroot.LawS5833CWhole': WHATEVER THE INPUT: true; the input reads as it did. -/
def lawS5833CWholeSpec : ChangeSpec := { name := "lawS5833CWhole", fn := fun _ => fun
  | [d1, d2, d3] => { results := [.lit (.bool true)], args := [d1, d2, d3] }
  | _ => none }
def lawS5833CWholeRow : OpenClaim := { program := "ybulkdptw", sum := "af46e2fe218b6ae830966ff3696d4b1943fe22597b9e7264ff7fecda48ae7ff8", func := "example.com/bitroot/bitroot.LawS5833CWhole", spec := "lawS5833CWhole", apart := false }
def LawS5833CWholeSaid : Prop := lawS5833CWholeRow.holds Yba.pinned (OpenSpec.ofChange lawS5833CWholeSpec)

/-- ITS FALSE NEIGHBOUR: 'it returns false'. Refute it at one input. -/
def lawS5833CWholeWrong : ChangeSpec := { name := "lawS5833CWhole", fn := fun _ => fun
  | [d1, d2, d3] => { results := [.lit (.bool false)], args := [d1, d2, d3] }
  | _ => none }
def LawS5833CWholeWrongFalsely : Prop := lawS5833CWholeRow.holds Yba.pinned (OpenSpec.ofChange lawS5833CWholeWrong)

end Rows
end Go.Proofs.Ybulkdptw

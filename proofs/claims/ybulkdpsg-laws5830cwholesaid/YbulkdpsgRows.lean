/-
  No cell of these rows narrows 'for every input' (looked for: loops, veiled, ifaces, maps, wideKeys, modest, calm, conditions, laid).
  DERIVED. THE GIVEN ROWS OF THIS SEAT. 2 by the template 'for every input the law returns true; each argument reads behind the call as it read before'; 0 by the template 'total and deterministic' (their statements: YbulkdpsgTotals.lean).
  GIVEN WITH THE SEED: the statements are not yours to turn. If you find one false, say at which input.
  Laid BY PROGRAM, IN A SANDBOX (cutbox-rows.mjs): the forced cells as the released guide's own fill.sh prints them over the translation b23f302c6de07eee… (all of the seat's roots in one cut). By AI agents, Wed Nov 11 2026. No macro, syntax, notation, axiom, sorry.
-/
import Derived.Test.YbulkdpsgChecked
import GoSem.Claim
import GoSem.ClaimJoined
import GoSem.ClaimMapViews
import Derived.JoinedTies
import Derived.KernelRfl
namespace Go.Proofs.Ybulkdpsg
/- THE CELL 'sum', in the pinned program and in every row, IS THE sha256 OF THE DUMP (.gsa) THAT YbulkdpsgProg.lean LOADS. Nothing in Lean hashes anything: it is a label: what it is worth is what the hold of that sum in a sandbox is worth. -/
noncomputable def Yba.pinned : Pinned := { name := "ybulkdpsg", sum := "b23f302c6de07eee88548328a1d28bca1fc62835be253722dd0357553dfe4ad5", checked := Yba.checked }
namespace Rows
def none {H : Type} : Left H := { results := [], args := [] }

/-- 'plan.LawS5830AWhole': WHATEVER THE INPUT: true; the input reads as it did. -/
def lawS5830AWholeSpec : ChangeSpec := { name := "lawS5830AWhole", fn := fun _ => fun
  | [d1, d2, d3, d4, d5, d6, d7] => { results := [.lit (.bool true)], args := [d1, d2, d3, d4, d5, d6, d7] }
  | _ => none }
def lawS5830AWholeRow : OpenClaim := { program := "ybulkdpsg", sum := "b23f302c6de07eee88548328a1d28bca1fc62835be253722dd0357553dfe4ad5", func := "example.com/slotwright/slotwright/internal/plan.LawS5830AWhole", spec := "lawS5830AWhole", inPlace := ["math.Float64bits", "math.Float64frombits", "math.archLog"], unfollowed := true, recurses := true, apart := false }
def LawS5830AWholeSaid : Prop := lawS5830AWholeRow.holds Yba.pinned (OpenSpec.ofChange lawS5830AWholeSpec)

/-- ITS FALSE NEIGHBOUR: 'it returns false'. Refute it at one input. -/
def lawS5830AWholeWrong : ChangeSpec := { name := "lawS5830AWhole", fn := fun _ => fun
  | [d1, d2, d3, d4, d5, d6, d7] => { results := [.lit (.bool false)], args := [d1, d2, d3, d4, d5, d6, d7] }
  | _ => none }
def LawS5830AWholeWrongFalsely : Prop := lawS5830AWholeRow.holds Yba.pinned (OpenSpec.ofChange lawS5830AWholeWrong)

/-- 'simulate.LawS5830CWhole': WHATEVER THE INPUT: true; the input reads as it did. -/
def lawS5830CWholeSpec : ChangeSpec := { name := "lawS5830CWhole", fn := fun _ => fun
  | [d1, d2, d3, d4, d5, d6, d7] => { results := [.lit (.bool true)], args := [d1, d2, d3, d4, d5, d6, d7] }
  | _ => none }
def lawS5830CWholeRow : OpenClaim := { program := "ybulkdpsg", sum := "b23f302c6de07eee88548328a1d28bca1fc62835be253722dd0357553dfe4ad5", func := "example.com/slotwright/slotwright/internal/simulate.LawS5830CWhole", spec := "lawS5830CWhole", unfollowed := true, recurses := true, apart := false }
def LawS5830CWholeSaid : Prop := lawS5830CWholeRow.holds Yba.pinned (OpenSpec.ofChange lawS5830CWholeSpec)

/-- ITS FALSE NEIGHBOUR: 'it returns false'. Refute it at one input. -/
def lawS5830CWholeWrong : ChangeSpec := { name := "lawS5830CWhole", fn := fun _ => fun
  | [d1, d2, d3, d4, d5, d6, d7] => { results := [.lit (.bool false)], args := [d1, d2, d3, d4, d5, d6, d7] }
  | _ => none }
def LawS5830CWholeWrongFalsely : Prop := lawS5830CWholeRow.holds Yba.pinned (OpenSpec.ofChange lawS5830CWholeWrong)

end Rows
end Go.Proofs.Ybulkdpsg

/- S5830C: the law's closure that hands the rule out. -/
import Derived.Test.YbulkdpsgU3
namespace Go.Proofs.Ybulkdpsg
open Go Go.RowKit Go.Proofs Go.Lib
set_option linter.unusedVariables false
set_option linter.unusedSimpArgs false
theorem new10 (bn bx br : Nat) (m : Nat) (w : World) (cn : w.cell? ⟨bn, 0, none⟩ = some (.int .i64 (m : Int))) (fn : w.frozen? ⟨bn, 0, none⟩ = false) (cx : w.cell? ⟨bx, 0, none⟩ = some (pn br 0)) (hne : bn ≠ bx) (hm : m ≤ 100) :
    Calls Yba.prog 10 #[pn bn 0, pn bx 0] w fun e w' => e = .returned (.iface 58 (pn br 0)) ∧ w' = w.setCell ⟨bn, 0, none⟩ (.int .i64 ((m : Int) + 1)) := by
  have hne' : bx ≠ bn := Ne.symm hne
  go_enter Yba.func10, Yba.ntmps10
  go_wp2
  go_ret
  exact ⟨rfl, rfl⟩
end Go.Proofs.Ybulkdpsg

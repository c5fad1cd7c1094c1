import Derived.Test.YbulkdpsgRows
import Derived.Test.YbulkdpsgFloat
import Derived.Test.YbulkdpsgLoose
import Derived.WalkKit
import Derived.WalkSpells
import Derived.WalkLawsBesides
import Derived.ProofKit
import Derived.Laws.Bits64b
import Derived.Laws.BitsAllLaws
namespace Go.Proofs.Ybulkdpsg
open Go Go.RowKit
set_option linter.unusedVariables false

theorem bits7 (x : Nat) (w : World) : (callFunc 7 #[.float .f64 x]).run Yba.prog w = .ok (.value (.int .u64 x)) w := by
  kernel_rfl
theorem from31 (n : Int) (w : World) : (callFunc 31 #[.int .u64 n]).run Yba.prog w = .ok (.value (.float .f64 n.toNat)) w := by
  kernel_rfl

theorem andNot63 (x : Nat) (hx : x < 18446744073709551616) : bits .andNot .u64 (x : Int) 9223372036854775808 = ((fabs x : Nat) : Int) := by
  have h := u64_andNot_nat x 9223372036854775808 hx (by decide)
  have e : x &&& (18446744073709551615 - 9223372036854775808) = x % 9223372036854775808 := Nat.and_two_pow_sub_one_eq_mod x 63
  rw [e] at h
  exact h
theorem abs_any (x : Nat) (hx : x < 18446744073709551616) (w : World) :
    Calls Yba.prog 19 #[.float .f64 x] w fun e w' => e = .returned (.float .f64 (fabs x)) ∧ w = w' := by
  have h7 := bits7
  have h31 := from31
  have hn := andNot63 x hx
  go_enter Yba.func19, Yba.ntmps19
  go_wp2
  go_ret
  exact ⟨rfl, rfl⟩
theorem inf_neg (w : World) : Calls Yba.prog 28 #[.int .i64 (-1)] w fun e w' => e = .returned (.float .f64 18442240474082181120) ∧ w = w' := by
  have h31 := from31
  go_enter Yba.func28, Yba.ntmps28
  go_wp2
  go_ret
  exact ⟨rfl, rfl⟩
end Go.Proofs.Ybulkdpsg

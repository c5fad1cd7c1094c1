/- S5830C: the comparison by arrival. -/
import Derived.Test.YbulkdpsgC2
namespace Go.Proofs.Ybulkdpsg
open Go Go.RowKit Go.Sort Go.Proofs Go.Lib
set_option linter.unusedVariables false

/-- cmp.Compare. -/
def cmpI (a b : Int) : Int := if a < b then -1 else if b < a then 1 else 0
theorem isNaN46 (a : Int) (w : World) : Calls Yba.prog 46 #[.int .i64 a] w fun e w' => e = .returned (.bool false) ∧ w = w' := by
  go_enter Yba.func46, Yba.ntmps46
  go_wp2
  go_ret
  exact ⟨by simp, rfl⟩
theorem compare34 (a b : Int) (w : World) : Calls Yba.prog 34 #[.int .i64 a, .int .i64 b] w fun e w' => e = .returned (.int .i64 (cmpI a b)) ∧ w = w' := by
  rcases Int.lt_trichotomy a b with h | h | h
  · have hr : cmpI a b = -1 := if_pos h
    rw [hr]
    go_enter Yba.func34, Yba.ntmps34
    go_wp2_with (go_at_call 46; refine (isNaN46 _ _).mono ?_; rintro e w' ⟨rfl, rfl⟩)
    go_ret
    exact ⟨rfl, rfl⟩
  · subst h
    have hr : cmpI a a = 0 := by unfold cmpI; rw [if_neg (by omega), if_neg (by omega)]
    rw [hr]
    go_enter Yba.func34, Yba.ntmps34
    go_wp2_with (go_at_call 46; refine (isNaN46 _ _).mono ?_; rintro e w' ⟨rfl, rfl⟩)
    go_ret
    exact ⟨rfl, rfl⟩
  · have hr : cmpI a b = 1 := by unfold cmpI; rw [if_neg (by omega), if_pos h]
    have h' : ¬ a < b := by omega
    rw [hr]
    go_enter Yba.func34, Yba.ntmps34
    go_wp2_with (go_at_call 46; refine (isNaN46 _ _).mono ?_; rintro e w' ⟨rfl, rfl⟩)
    go_ret
    exact ⟨rfl, rfl⟩

def cfT (x y : Tk) : Int := cmpI x.arr y.arr
theorem en33 (args : Array Value) (w : World) : (callFunc 33 args).run Yba.prog w = .ok (.enter 33 args) w := by kernel_rfl
set_option maxHeartbeats 1000000 in
theorem cmpT (x y : Tk) (w : World) : Calls Yba.prog 33 #[.agg (encT x).toArray, .agg (encT y).toArray] w fun e w' => e = .returned (.int .i64 (cfT x y)) ∧ ∃ os, w' = grow w os := by
  have ha := agg105
  have hs := size105
  unfold encT
  go_enter Yba.func33, Yba.ntmps33
  go_wp2_with (go_at_call 34; refine (compare34 _ _ _).mono ?_; rintro e w' ⟨rfl, rfl⟩)
  go_ret
  exact ⟨rfl, _, by rw [alloc_eq_grow, alloc_eq_grow, grow_grow]⟩
end Go.Proofs.Ybulkdpsg

/- THE CLOSURE 'share' OF logShare: it gives what the law's own function gives. -/
import Derived.Test.YbulkdpsgShare
namespace Go.Proofs.Ybulkdpsg
open Go Go.RowKit
set_option linter.unusedVariables false

theorem en19 (args : Array Value) (w : World) : (callFunc 19 args).run Yba.prog w = .ok (.enter 19 args) w := by kernel_rfl
theorem en40 (args : Array Value) (w : World) : (callFunc 40 args).run Yba.prog w = .ok (.enter 40 args) w := by kernel_rfl
theorem en26 (args : Array Value) (w : World) : (callFunc 26 args).run Yba.prog w = .ok (.enter 26 args) w := by kernel_rfl

theorem exec_call {o : Oper} {ρ : Operand → Value} {f : FuncId} (xs : Array Operand) (ts : Array TypeId) (ho : o.op = .call { callee := .value (.func f), args := xs, argTypes := ts }) (hf : ρ (.func f) = .func (.func f) #[] #[]) (hen : ∀ args w, (callFunc f args).run Yba.prog w = .ok (.enter f args) w) (w : World) :
    (execOp ρ o).run Yba.prog w = .ok (.enter f (xs.map ρ)) w := by
  simp [execOp, ho, resolve, invoke, hf, hen, Deferred.ofValue]

section
variable {W : World} {Kt : FuncId → Array Value → Value → Prop} {ops : Array Oper} {rest : List Oper} {o : Oper} {a : Act} {Q : Act → Prop}
/-- A call of a function of the text. -/
theorem wpLoose_fn {f : FuncId} (hw : Region.wanted o (yielded ops a.tmps) = true) (xs : Array Operand) (ts : Array TypeId) (ho : o.op = .call { callee := .value (.func f), args := xs, argTypes := ts }) (hen : ∀ args w, (callFunc f args).run Yba.prog w = .ok (.enter f args) w)
    (args : Array Value) (hargs : xs.map a.eval = args) (R : Value → Prop) (hc : ∀ n, Calls Yba.prog f args (W.drewN n) fun e w' => ∃ v, e = .returned v ∧ R v ∧ ∃ m, w' = W.drewN m) (hK : ∀ v, R v → Kt f args v) (hK' : ∀ v, Kt f args v → R v)
    (h : ∀ v, R v → wpLoose Yba.prog W Kt ops Q rest (a.put o.dst v)) : wpLoose Yba.prog W Kt ops Q (o :: rest) a :=
  wpLoose_call f args (fun n => by rw [exec_call xs ts ho rfl hen, hargs]) hw (fun n => (hc n).mono fun e w' ⟨v, he, hv, hm⟩ => ⟨v, he, hK v hv, hm⟩) (fun v hv => h v (hK' v hv))
/-- The table of regions that call math.Abs alone. -/
def KA (_ : FuncId) (args : Array Value) (v : Value) : Prop := ∀ r, args = #[.float .f64 r] → v = .float .f64 (fabs r)
theorem wpLoose_abs (hw : Region.wanted o (yielded ops a.tmps) = true) (x : Operand) (ts : Array TypeId) (ho : o.op = .call { callee := .value (.func 19), args := #[x], argTypes := ts }) {r s : Nat} (hx : a.eval x = .float .f64 r) (hr : Rel r s)
    (h : wpLoose Yba.prog W KA ops Q rest (a.put o.dst (.float .f64 (fabs r)))) : wpLoose Yba.prog W KA ops Q (o :: rest) a := by
  refine wpLoose_fn hw #[x] ts ho en19 #[.float .f64 r] (by simp [hx]) (fun v => v = .float .f64 (fabs r)) (fun n => ?_) (fun v hv r' e => ?_) (fun v hv => hv r rfl) (fun v hv => by rw [hv]; exact h)
  · exact (abs_any r hr.lt _).mono fun e w' ⟨he, hw'⟩ => ⟨_, he, rfl, n, hw'.symm⟩
  · simp at e; rw [hv, e]
end

set_option maxRecDepth 100000 in
set_option maxHeartbeats 4000000 in
theorem num_share27 (z side : Nat) (sign : Int) (hvj : Int) (e l v : Nat) (hz : nonpos z = false) (rs : Rel side side) (he : Em (fneg z) e) (hl : Lg (fneg e) l) (hv : v = shV l z sign (floatOfInt .f64 hvj)) (bs bj sb hb j m : Nat) (hj : j < m)
    (z' : Nat) (hr : Rel z' z) (w : World) (c1 : w.cell? ⟨bs, 0, none⟩ = some (.pointer (some ⟨sb, 0, none⟩))) (c2 : w.cell? ⟨bj, 0, none⟩ = some (.int .i64 (j : Int)))
    (s3 : w.cell? ⟨sb, 3, none⟩ = some (.int .i64 sign)) (s7 : w.cell? ⟨sb, 7, none⟩ = some (.slice (some ⟨hb, 0, none⟩) m m)) (hc : w.cell? ⟨hb, j, none⟩ = some (.int .i32 hvj)) :
    Calls Yba.prog 27 #[.float .f64 z', .float .f64 side, .pointer (some ⟨bs, 0, none⟩), .pointer (some ⟨bj, 0, none⟩)] w fun e w' => ∃ r n, e = .returned (.float .f64 r) ∧ Rel r (shF v z side (floatOfInt .f64 hvj)) ∧ w' = w.drewN n := by
  have f := nonpos_rel hr
  rw [hz] at f
  have hn := run_neg z' hr.lt
  have hrn := hr.neg
  clear hz
  by_cases hs : 0 < sign
  · have hv' : fop .sub (fop .add l z) (fop .mul (floatOfInt .f64 hvj) 4604418534313441775) = v := by rw [hv]; unfold shV; rw [if_pos hs]
    clear hv
    go_enter Yba.func27, Yba.ntmps27
    go_wp2_with (first
      | (go_at_call 30; refine (he _ hrn _).mono ?_; rintro e w' ⟨re, rfl, hre, rfl⟩; have hn2 := run_neg re hre.lt; have hre2 := hre.neg)
      | (go_at_call 29; refine (hl _ hre2 _).mono ?_; rintro e w' ⟨rl, n, rfl, hrl, rfl⟩)
      | (refine wpList_float rfl _ _ _ _ _ rfl rfl rfl rfl (by first | assumption | exact Rel.abs (by assumption) | exact Rel.refl (by decide) | exact rel_int _) (by first | assumption | exact Rel.abs (by assumption) | exact Rel.refl (by decide) | exact rel_int _) ?_; intro r n hr))
    refine wp_region_loose KA (by kernel_rfl) (by kernel_rfl) ?_
    repeat (first
      | (refine wpLoose_float rfl _ _ _ _ _ rfl rfl rfl rfl (by first | assumption | exact Rel.abs (by assumption) | exact Rel.refl (by decide) | exact rel_int _) (by first | assumption | exact Rel.abs (by assumption) | exact Rel.refl (by decide) | exact rel_int _) ?_; intro r hr; (try rw [hv'] at hr); simp only [Act.put, List.setIfInBounds_toArray, List.set_cons_succ, List.set_cons_zero])
      | (refine wpLoose_nilCheck rfl _ rfl _ rfl ?_; simp only [Act.put, List.setIfInBounds_toArray, List.set_cons_succ, List.set_cons_zero])
      | (refine wpLoose_want rfl rfl (fun K hK => ?_); go_big_quiet_op; refine hK _ ?_; clear hK K))
    refine wpLoose_nil ?_
    intro nq
    go_wp2
    refine wp_region_loose KA (by kernel_rfl) (by kernel_rfl) ?_
    repeat (first
      | (refine wpLoose_float rfl _ _ _ _ _ rfl rfl rfl rfl (by first | assumption | exact Rel.abs (by assumption) | exact Rel.refl (by decide) | exact rel_int _) (by first | assumption | exact Rel.abs (by assumption) | exact Rel.refl (by decide) | exact rel_int _) ?_; intro r hr; (try rw [hv'] at hr); simp only [Act.put, List.setIfInBounds_toArray, List.set_cons_succ, List.set_cons_zero])
      | (refine wpLoose_nilCheck rfl _ rfl _ rfl ?_; simp only [Act.put, List.setIfInBounds_toArray, List.set_cons_succ, List.set_cons_zero])
      | (refine wpLoose_abs rfl _ _ rfl rfl (by assumption) ?_; simp only [Act.put, List.setIfInBounds_toArray, List.set_cons_succ, List.set_cons_zero])
      | (refine wpLoose_want rfl rfl (fun K hK => ?_); go_big_quiet_op; refine hK _ ?_; clear hK K))
    refine wpLoose_nil ?_
    intro nq
    go_wp2
    go_ret
    refine ⟨_, ?n, rfl, by assumption, ?h⟩
    case h => rw [World.drewN_drewN, World.drewN_drewN]
  · have hv' : fop .sub l (fop .mul (floatOfInt .f64 hvj) 4604418534313441775) = v := by rw [hv]; unfold shV; rw [if_neg hs]
    clear hv
    go_enter Yba.func27, Yba.ntmps27
    go_wp2_with (first
      | (go_at_call 30; refine (he _ hrn _).mono ?_; rintro e w' ⟨re, rfl, hre, rfl⟩; have hn2 := run_neg re hre.lt; have hre2 := hre.neg)
      | (go_at_call 29; refine (hl _ hre2 _).mono ?_; rintro e w' ⟨rl, n, rfl, hrl, rfl⟩)
      | (refine wpList_float rfl _ _ _ _ _ rfl rfl rfl rfl (by first | assumption | exact Rel.abs (by assumption) | exact Rel.refl (by decide) | exact rel_int _) (by first | assumption | exact Rel.abs (by assumption) | exact Rel.refl (by decide) | exact rel_int _) ?_; intro r n hr))
    refine wp_region_loose KA (by kernel_rfl) (by kernel_rfl) ?_
    repeat (first
      | (refine wpLoose_float rfl _ _ _ _ _ rfl rfl rfl rfl (by first | assumption | exact Rel.abs (by assumption) | exact Rel.refl (by decide) | exact rel_int _) (by first | assumption | exact Rel.abs (by assumption) | exact Rel.refl (by decide) | exact rel_int _) ?_; intro r hr; (try rw [hv'] at hr); simp only [Act.put, List.setIfInBounds_toArray, List.set_cons_succ, List.set_cons_zero])
      | (refine wpLoose_nilCheck rfl _ rfl _ rfl ?_; simp only [Act.put, List.setIfInBounds_toArray, List.set_cons_succ, List.set_cons_zero])
      | (refine wpLoose_want rfl rfl (fun K hK => ?_); go_big_quiet_op; refine hK _ ?_; clear hK K))
    refine wpLoose_nil ?_
    intro nq
    go_wp2
    refine wp_region_loose KA (by kernel_rfl) (by kernel_rfl) ?_
    repeat (first
      | (refine wpLoose_float rfl _ _ _ _ _ rfl rfl rfl rfl (by first | assumption | exact Rel.abs (by assumption) | exact Rel.refl (by decide) | exact rel_int _) (by first | assumption | exact Rel.abs (by assumption) | exact Rel.refl (by decide) | exact rel_int _) ?_; intro r hr; (try rw [hv'] at hr); simp only [Act.put, List.setIfInBounds_toArray, List.set_cons_succ, List.set_cons_zero])
      | (refine wpLoose_nilCheck rfl _ rfl _ rfl ?_; simp only [Act.put, List.setIfInBounds_toArray, List.set_cons_succ, List.set_cons_zero])
      | (refine wpLoose_abs rfl _ _ rfl rfl (by assumption) ?_; simp only [Act.put, List.setIfInBounds_toArray, List.set_cons_succ, List.set_cons_zero])
      | (refine wpLoose_want rfl rfl (fun K hK => ?_); go_big_quiet_op; refine hK _ ?_; clear hK K))
    refine wpLoose_nil ?_
    intro nq
    go_wp2
    go_ret
    refine ⟨_, ?n2, rfl, by assumption, ?h2⟩
    case h2 => rw [World.drewN_drewN, World.drewN_drewN]

theorem inf_share27 (z side : Nat) (hz : nonpos z = true) (bs bj : Nat) (z' : Nat) (hr : Rel z' z) (w : World) :
    Calls Yba.prog 27 #[.float .f64 z', .float .f64 side, .pointer (some ⟨bs, 0, none⟩), .pointer (some ⟨bj, 0, none⟩)] w fun e w' => e = .returned (.float .f64 18442240474082181120) ∧ w = w' := by
  have f := nonpos_rel hr
  rw [hz] at f
  clear hz hr
  go_enter Yba.func27, Yba.ntmps27
  go_wp2_with (go_at_call 28; refine (inf_neg _).mono ?_; rintro e w' ⟨rfl, rfl⟩)
  go_ret
  exact ⟨rfl, rfl⟩
end Go.Proofs.Ybulkdpsg

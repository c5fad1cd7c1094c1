/- THE WALK'S OWN LAWS: float arithmetic in an ordered region and in one that draws its order. -/
import Derived.Test.YbulkdpsgExpm1
import Derived.BigQuiet
namespace Go.Proofs.Ybulkdpsg
open Go Go.RowKit
set_option linter.unusedVariables false

def arithB : BinOp → Bool
  | .add | .sub | .mul | .quo => true
  | _ => false
theorem arithB_or {op : BinOp} (h : arithB op = true) : op = .add ∨ op = .sub ∨ op = .mul ∨ op = .quo := by
  cases op <;> simp [arithB] at h ⊢

theorem exec_float {P : Program} {o : Oper} {ρ : Operand → Value} (op : BinOp) (t t' : TypeId) (x y : Operand) (ho : o.op = .binOp op t x y t') (hop : arithB op = true)
    {xv yv s u : Nat} (hx : ρ x = .float .f64 xv) (hy : ρ y = .float .f64 yv) (rx : Rel xv s) (ry : Rel yv u) (w : World) :
    ∃ r n, (execOp ρ o).run P w = .ok (.value (.float .f64 r)) (w.drewN n) ∧ Rel r (fop op s u) := by
  obtain ⟨r, n, e, hr⟩ := run_float (P := P) (arithB_or hop) t rx ry w
  refine ⟨r, n, ?_, hr⟩
  rcases arithB_or hop with rfl | rfl | rfl | rfl
  all_goals
    simp only [execOp, ho, hx, hy, Sem.run_bind, eqGuard, Bool.not_false, if_true, Sem.run_pure, Result.andThen_ok, e]

theorem wpList_float {P : Program} {w : World} {ops : Array Oper} {rest : List Oper} {o : Oper} {a : Act} {Q : Exit → Act → World → Prop} (hg : o.guard = none) (op : BinOp) (t t' : TypeId) (x y : Operand) (ho : o.op = .binOp op t x y t') (hop : arithB op = true)
    {xv yv s u : Nat} (hx : a.eval x = .float .f64 xv) (hy : a.eval y = .float .f64 yv) (rx : Rel xv s) (ry : Rel yv u)
    (h : ∀ r n, Rel r (fop op s u) → wpList P ops Q rest (a.put o.dst (.float .f64 r)) (w.drewN n)) : wpList P ops Q (o :: rest) a w := by
  refine wpList_plain hg fun K hK => ?_
  obtain ⟨r, n, e, hr⟩ := exec_float (P := P) op t t' x y ho hop hx hy rx ry w
  unfold Oper.wp
  rw [e]
  exact hK _ _ (h r n hr)

section
variable {P : Program} {W : World} {Kt : FuncId → Array Value → Value → Prop} {ops : Array Oper} {rest : List Oper} {o : Oper} {a : Act} {Q : Act → Prop}
theorem wpLoose_float (hw : Region.wanted o (yielded ops a.tmps) = true) (op : BinOp) (t t' : TypeId) (x y : Operand) (ho : o.op = .binOp op t x y t') (hop : arithB op = true)
    {xv yv s u : Nat} (hx : a.eval x = .float .f64 xv) (hy : a.eval y = .float .f64 yv) (rx : Rel xv s) (ry : Rel yv u)
    (h : ∀ r, Rel r (fop op s u) → wpLoose P W Kt ops Q rest (a.put o.dst (.float .f64 r))) : wpLoose P W Kt ops Q (o :: rest) a := by
  refine wpLoose_set (fun v => ∃ r, v = .float .f64 r ∧ Rel r (fop op s u)) (fun n => ?_) hw ?_
  · obtain ⟨r, m, e, hr⟩ := exec_float (P := P) op t t' x y ho hop hx hy rx ry (W.drewN n)
    exact ⟨_, n + m, by rw [e, World.drewN_drewN], _, rfl, hr⟩
  · rintro v ⟨r, rfl, hr⟩
    exact h r hr

def plainOp : Op → Bool
  | .move _ | .assign _ | .load _ _ | .fieldAddr _ _ _ | .indexAddr _ _ _ | .convert _ _ _ | .binOp _ _ _ _ _ | .unOp _ _ _ | .extract _ _ => true
  | _ => false
theorem no_enter_v (s : Sem Value) (w : World) (f : FuncId) (args : Array Value) (w' : World) : (s >>= fun v => pure (Next.value v) : Sem Next).run P w ≠ .ok (.enter f args) w' := by
  rw [Sem.run_bind]
  cases s.run P w <;> simp [Result.andThen]
theorem no_enter (h : plainOp o.op = true) (ρ : Operand → Value) (w : World) (f : FuncId) (args : Array Value) (w' : World) : (execOp ρ o).run P w ≠ .ok (.enter f args) w' := by
  unfold execOp
  cases ho : o.op <;> rw [ho] at h <;> first | (cases h; done) | skip
  all_goals first
    | exact no_enter_v _ _ _ _ _
    | (simp; done)
/-- An operation that reads, as the quiet walk runs it. -/
theorem wpLoose_want (hw : Region.wanted o (yielded ops a.tmps) = true) (hp : plainOp o.op = true)
    (h : ∀ K : Act → Prop, (∀ a, wpLoose P W Kt ops Q rest a → K a) → o.quiet P a (fun w' => ∃ n, w' = W.drewN n) K) : wpLoose P W Kt ops Q (o :: rest) a := by
  obtain ⟨v, hv, hk⟩ := h _ (fun _ h => h)
  have hr : ∀ n, ((execOp a.eval o).run P (W.drewN n) = .ok (.value v) (W.drewN n)) ∨ ((execOp a.eval o).run P (W.drewN n) = .ok .skip (W.drewN n) ∧ v = undef) := fun n => by
    have h1 := hv (W.drewN n) ⟨n, rfl⟩
    have h2 := no_enter (P := P) hp a.eval (W.drewN n)
    unfold Oper.quietAt at h1
    generalize (execOp a.eval o).run P (W.drewN n) = r at *
    cases r with
    | halt x w' => simp only [Oper.quietUpon] at h1
    | ok nx w' =>
      cases nx <;> simp only [Oper.quietUpon] at h1
      case value u => obtain ⟨rfl, rfl⟩ := h1; exact .inl rfl
      case skip => obtain ⟨rfl, rfl⟩ := h1; exact .inr ⟨rfl, rfl⟩
      case enter f args => exact (h2 f args w' rfl).elim
  refine ⟨fun _ n => ?_, fun u hu => ?_⟩
  · rcases hr n with e | ⟨e, _⟩ <;> rw [e] <;> exact ⟨n, rfl⟩
  · rcases hu with ⟨_, n, hu⟩ | ⟨hu, _⟩
    · rcases hr n with e | ⟨e, e'⟩
      · rw [e] at hu; obtain rfl : u = v := hu; exact hk
      · rw [e] at hu; obtain rfl : u = undef := hu; rw [← e']; exact hk
    · rw [hw] at hu; cases hu
/-- A pointer that is none, no test fails. -/
theorem wpLoose_nilCheck (hw : Region.wanted o (yielded ops a.tmps) = true) (x : Operand) (ho : o.op = .nilCheck x) (p : Addr) (hx : a.eval x = .pointer (some p))
    (h : wpLoose P W Kt ops Q rest (a.put o.dst (.pointer (some p)))) : wpLoose P W Kt ops Q (o :: rest) a :=
  wpLoose_val (fun n => by simp only [execOp, ho, hx, Sem.run_pure]) hw h
end
end Go.Proofs.Ybulkdpsg

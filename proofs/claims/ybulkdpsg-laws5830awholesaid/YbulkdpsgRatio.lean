/- logRatio: THE LOGARITHM OF TWO DENSITIES' RATIO AND ITS BOUND. -/
import Derived.Test.YbulkdpsgShare2
namespace Go.Proofs.Ybulkdpsg
open Go Go.RowKit
set_option linter.unusedVariables false

section
variable {W : World} {Kt : FuncId → Array Value → Value → Prop} {ops : Array Oper} {rest : List Oper} {o : Oper} {a : Act} {Q : Act → Prop}
theorem wpLoose_max (hw : Region.wanted o (yielded ops a.tmps) = true) (x y : Operand) (ts : Array TypeId) (ho : o.op = .call { callee := .builtin .max, args := #[x, y], argTypes := ts }) {p q d : Int} (hx : a.eval x = .int .u64 p) (hy : a.eval y = .int .u64 q) (hd : (if q > p then q else p) = d)
    (h : wpLoose Yba.prog W Kt ops Q rest (a.put o.dst (.int .u64 d))) : wpLoose Yba.prog W Kt ops Q (o :: rest) a :=
  wpLoose_val (fun n => by simp [execOp, ho, resolve, invoke, BigFrame.builtin_max, hx, hy, run_max_int2, hd]) hw h
theorem wpLoose_min (hw : Region.wanted o (yielded ops a.tmps) = true) (x y : Operand) (ts : Array TypeId) (ho : o.op = .call { callee := .builtin .min, args := #[x, y], argTypes := ts }) {p q d : Int} (hx : a.eval x = .int .u64 p) (hy : a.eval y = .int .u64 q) (hd : (if q < p then q else p) = d)
    (h : wpLoose Yba.prog W Kt ops Q rest (a.put o.dst (.int .u64 d))) : wpLoose Yba.prog W Kt ops Q (o :: rest) a :=
  wpLoose_val (fun n => by simp [execOp, ho, resolve, invoke, BigFrame.builtin_min, hx, hy, run_min_int2, hd]) hw h
/-- The table of a region that calls squaresApart once. -/
def KQ (d m : Nat) (_ : FuncId) (_ : Array Value) (v : Value) : Prop := ∃ r, v = .float .f64 r ∧ Rel r (sqF d m)
theorem wpLoose_sq {d m : Nat} (hw : Region.wanted o (yielded ops a.tmps) = true) (x y : Operand) (ts : Array TypeId) (ho : o.op = .call { callee := .value (.func 40), args := #[x, y], argTypes := ts }) (hx : a.eval x = .int .u64 (d : Int)) (hy : a.eval y = .int .u64 (m : Int)) (hD : d < 18446744073709551616) (hM : m ≤ d)
    (h : ∀ r, Rel r (sqF d m) → wpLoose Yba.prog W (KQ d m) ops Q rest (a.put o.dst (.float .f64 r))) : wpLoose Yba.prog W (KQ d m) ops Q (o :: rest) a := by
  refine wpLoose_fn hw #[x, y] ts ho en40 #[.int .u64 (d : Int), .int .u64 (m : Int)] (by simp [hx, hy]) (fun v => ∃ r, v = .float .f64 r ∧ Rel r (sqF d m)) (fun n => ?_) (fun v hv => hv) (fun v hv => hv) ?_
  · exact (squares d m hD hM _).mono fun e w' ⟨r, n', he, hr, hw'⟩ => ⟨_, he, ⟨r, rfl, hr⟩, n + n', by rw [hw', World.drewN_drewN]⟩
  · rintro v ⟨r, rfl, hr⟩
    exact h r hr
end

/-- The scores' cells. -/
structure Sc (w : World) (sb nb lb hb m inv le : Nat) (sign : Int) (ref : Nat) : Prop where
  s0 : w.cell? ⟨sb, 0, none⟩ = some (.float .f64 inv)
  s3 : w.cell? ⟨sb, 3, none⟩ = some (.int .i64 sign)
  s4 : w.cell? ⟨sb, 4, none⟩ = some (.slice (some ⟨nb, 0, none⟩) m m)
  s5 : w.cell? ⟨sb, 5, none⟩ = some (.slice (some ⟨lb, 0, none⟩) m m)
  s6 : w.cell? ⟨sb, 6, none⟩ = some (.float .f64 le)
  s7 : w.cell? ⟨sb, 7, none⟩ = some (.slice (some ⟨hb, 0, none⟩) m m)
  s8 : w.cell? ⟨sb, 8, none⟩ = some (.int .i64 (ref : Int))
/-- One candidate's. -/
structure Cd (w : World) (nb lb hb j ne ls : Nat) (hv : Int) : Prop where
  n : w.cell? ⟨nb, j, none⟩ = some (.int .u64 (ne : Int))
  l : w.cell? ⟨lb, j, none⟩ = some (.float .f64 ls)
  h : w.cell? ⟨hb, j, none⟩ = some (.int .i32 hv)
  ltn : ne < 18446744073709551616
  ltl : ls < 18446744073709551616

def ratX (na nc inv : Nat) : Nat := if nc < na then fneg (fop .mul (sqF na nc) inv) else fop .mul (sqF nc na) inv
def ratV (X la lc : Nat) : Nat := fop .sub (fop .add X la) lc
def ratB (X la lc le : Nat) : Nat := fop .mul 4611686018427387904 (fop .add (fop .add (fop .mul (fabs X) 4382002437431492608) (fop .mul 4611686018427387904 le)) (fop .mul 4377498837804122112 (fop .add (fop .add (fabs X) la) lc)))

set_option maxRecDepth 100000 in
set_option maxHeartbeats 4000000 in
theorem ratio (w : World) {sb nb lb hb m inv le : Nat} {sign : Int} {ref : Nat} (S : Sc w sb nb lb hb m inv le sign ref) (hinv : Rel inv inv) (hle : Rel le le)
    {ia ic : Nat} (hia : ia < m) (hic : ic < m) {na la nc lc : Nat} {ha hc : Int} (A : Cd w nb lb hb ia na la ha) (C : Cd w nb lb hb ic nc lc hc) (X : Nat) (hX : X = ratX na nc inv) :
    Calls Yba.prog 26 #[.pointer (some ⟨sb, 0, none⟩), .int .i64 (ia : Int), .int .i64 (ic : Int)] w fun e w' => ∃ p q n, e = .returned (.tuple #[.float .f64 p, .float .f64 q]) ∧ Rel p (ratV X la lc) ∧ Rel q (ratB X la lc le) ∧ w' = w.drewN n := by
  obtain ⟨s0, s3, s4, s5, s6, s7, s8⟩ := S
  obtain ⟨an, al, ah, ant, alt⟩ := A
  obtain ⟨cn, cl, ch, cnt, clt⟩ := C
  have ral : Rel la la := Rel.refl alt
  have rcl : Rel lc lc := Rel.refl clt
  by_cases hg : nc < na
  · have hmax : (if (nc : Int) > (na : Int) then (nc : Int) else (na : Int)) = (na : Int) := if_neg (by omega)
    have hmin : (if (nc : Int) < (na : Int) then (nc : Int) else (na : Int)) = (nc : Int) := if_pos (by omega)
    obtain ⟨X0, hX0⟩ : ∃ X0, fop .mul (sqF na nc) inv = X0 := ⟨_, rfl⟩
    have hX' : fneg X0 = X := by rw [hX, ← hX0]; unfold ratX; rw [if_pos hg]
    have hgi : (nc : Int) < (na : Int) := by omega
    obtain ⟨D, hDe⟩ : ∃ D, D = na := ⟨_, rfl⟩
    obtain ⟨M, hMe⟩ : ∃ M, M = nc := ⟨_, rfl⟩
    have hD : na < 18446744073709551616 := ant
    have hM : nc ≤ na := by omega
    clear hX hDe hMe D M
    go_enter Yba.func26, Yba.ntmps26
    go_wp2
    refine wp_region_loose (KQ na nc) (by kernel_rfl) (by kernel_rfl) ?_
    repeat (first
      | (refine wpLoose_float rfl _ _ _ _ _ rfl rfl rfl rfl (by first | assumption | exact Rel.abs (by assumption) | exact Rel.refl (by decide) | exact rel_int _) (by first | assumption | exact Rel.abs (by assumption) | exact Rel.refl (by decide) | exact rel_int _) ?_; intro r hr; (try rw [hX0] at hr); simp only [Act.put, List.setIfInBounds_toArray, List.set_cons_succ, List.set_cons_zero])
      | (refine wpLoose_nilCheck rfl _ rfl _ rfl ?_; simp only [Act.put, List.setIfInBounds_toArray, List.set_cons_succ, List.set_cons_zero])
      | (refine wpLoose_max rfl _ _ _ rfl rfl rfl hmax ?_; simp only [Act.put, List.setIfInBounds_toArray, List.set_cons_succ, List.set_cons_zero])
      | (refine wpLoose_min rfl _ _ _ rfl rfl rfl hmin ?_; simp only [Act.put, List.setIfInBounds_toArray, List.set_cons_succ, List.set_cons_zero])
      | (refine wpLoose_sq rfl _ _ _ rfl rfl rfl hD hM ?_; intro r hr; simp only [Act.put, List.setIfInBounds_toArray, List.set_cons_succ, List.set_cons_zero])
      | (refine wpLoose_want rfl rfl (fun K hK => ?_); go_big_quiet_op; refine hK _ ?_; clear hK K))
    refine wpLoose_nil ?_
    intro nq
    go_wp2
    refine wp_region_loose KA (by kernel_rfl) (by kernel_rfl) ?_
    repeat (first
      | (refine wpLoose_float rfl _ _ _ _ _ rfl rfl rfl rfl (by first | assumption | exact Rel.abs (by assumption) | exact Rel.refl (by decide) | exact rel_int _) (by first | assumption | exact Rel.abs (by assumption) | exact Rel.refl (by decide) | exact rel_int _) ?_; intro r hr; (try rw [hX0] at hr); simp only [Act.put, List.setIfInBounds_toArray, List.set_cons_succ, List.set_cons_zero])
      | (refine wpLoose_nilCheck rfl _ rfl _ rfl ?_; simp only [Act.put, List.setIfInBounds_toArray, List.set_cons_succ, List.set_cons_zero])
      | (refine wpLoose_want rfl rfl (fun K hK => ?_); go_big_quiet_op; refine hK _ ?_; clear hK K))
    refine wpLoose_nil ?_
    intro nq
    have hnx := run_neg _ (Rel.lt (s := X0) (by assumption))
    have hrx : Rel _ (fneg X0) := Rel.neg (by assumption)
    rw [hX'] at hrx
    go_wp2
    refine wp_region_loose KA (by kernel_rfl) (by kernel_rfl) ?_
    repeat (first
      | (refine wpLoose_float rfl _ _ _ _ _ rfl rfl rfl rfl (by first | assumption | exact Rel.abs (by assumption) | exact Rel.refl (by decide) | exact rel_int _) (by first | assumption | exact Rel.abs (by assumption) | exact Rel.refl (by decide) | exact rel_int _) ?_; intro r hr; (try rw [hX0] at hr); simp only [Act.put, List.setIfInBounds_toArray, List.set_cons_succ, List.set_cons_zero])
      | (refine wpLoose_nilCheck rfl _ rfl _ rfl ?_; simp only [Act.put, List.setIfInBounds_toArray, List.set_cons_succ, List.set_cons_zero])
      | (refine wpLoose_want rfl rfl (fun K hK => ?_); go_big_quiet_op; refine hK _ ?_; clear hK K))
    refine wpLoose_nil ?_
    intro nq
    go_wp2
    refine wp_region_loose KA (by kernel_rfl) (by kernel_rfl) ?_
    repeat (first
      | (refine wpLoose_float rfl _ _ _ _ _ rfl rfl rfl rfl (by first | assumption | exact Rel.abs (by assumption) | exact Rel.refl (by decide) | exact rel_int _) (by first | assumption | exact Rel.abs (by assumption) | exact Rel.refl (by decide) | exact rel_int _) ?_; intro r hr; (try rw [hX0] at hr); simp only [Act.put, List.setIfInBounds_toArray, List.set_cons_succ, List.set_cons_zero])
      | (refine wpLoose_nilCheck rfl _ rfl _ rfl ?_; simp only [Act.put, List.setIfInBounds_toArray, List.set_cons_succ, List.set_cons_zero])
      | (refine wpLoose_abs rfl _ _ rfl rfl (by assumption) ?_; simp only [Act.put, List.setIfInBounds_toArray, List.set_cons_succ, List.set_cons_zero])
      | (refine wpLoose_want rfl rfl (fun K hK => ?_); go_big_quiet_op; refine hK _ ?_; clear hK K))
    refine wpLoose_nil ?_
    intro nq
    go_wp2
    go_ret2
    refine ⟨_, _, ?n1, rfl, by assumption, by assumption, ?h1⟩
    case h1 => simp only [World.drewN_drewN]; rfl
  · have hmax : (if (nc : Int) > (na : Int) then (nc : Int) else (na : Int)) = (nc : Int) := by split <;> omega
    have hmin : (if (nc : Int) < (na : Int) then (nc : Int) else (na : Int)) = (na : Int) := if_neg (by omega)
    obtain ⟨X0, hX0⟩ : ∃ X0, fop .mul (sqF nc na) inv = X0 := ⟨_, rfl⟩
    have hX' : X0 = X := by rw [hX, ← hX0]; unfold ratX; rw [if_neg hg]
    have hgi : (na : Int) ≤ (nc : Int) := by omega
    have hD : nc < 18446744073709551616 := cnt
    have hM : na ≤ nc := by omega
    subst hX'
    clear hX
    go_enter Yba.func26, Yba.ntmps26
    go_wp2
    refine wp_region_loose (KQ nc na) (by kernel_rfl) (by kernel_rfl) ?_
    repeat (first
      | (refine wpLoose_float rfl _ _ _ _ _ rfl rfl rfl rfl (by first | assumption | exact Rel.abs (by assumption) | exact Rel.refl (by decide) | exact rel_int _) (by first | assumption | exact Rel.abs (by assumption) | exact Rel.refl (by decide) | exact rel_int _) ?_; intro r hr; (try rw [hX0] at hr); simp only [Act.put, List.setIfInBounds_toArray, List.set_cons_succ, List.set_cons_zero])
      | (refine wpLoose_nilCheck rfl _ rfl _ rfl ?_; simp only [Act.put, List.setIfInBounds_toArray, List.set_cons_succ, List.set_cons_zero])
      | (refine wpLoose_max rfl _ _ _ rfl rfl rfl hmax ?_; simp only [Act.put, List.setIfInBounds_toArray, List.set_cons_succ, List.set_cons_zero])
      | (refine wpLoose_min rfl _ _ _ rfl rfl rfl hmin ?_; simp only [Act.put, List.setIfInBounds_toArray, List.set_cons_succ, List.set_cons_zero])
      | (refine wpLoose_sq rfl _ _ _ rfl rfl rfl hD hM ?_; intro r hr; simp only [Act.put, List.setIfInBounds_toArray, List.set_cons_succ, List.set_cons_zero])
      | (refine wpLoose_want rfl rfl (fun K hK => ?_); go_big_quiet_op; refine hK _ ?_; clear hK K))
    refine wpLoose_nil ?_
    intro nq
    go_wp2
    refine wp_region_loose KA (by kernel_rfl) (by kernel_rfl) ?_
    repeat (first
      | (refine wpLoose_float rfl _ _ _ _ _ rfl rfl rfl rfl (by first | assumption | exact Rel.abs (by assumption) | exact Rel.refl (by decide) | exact rel_int _) (by first | assumption | exact Rel.abs (by assumption) | exact Rel.refl (by decide) | exact rel_int _) ?_; intro r hr; (try rw [hX0] at hr); simp only [Act.put, List.setIfInBounds_toArray, List.set_cons_succ, List.set_cons_zero])
      | (refine wpLoose_nilCheck rfl _ rfl _ rfl ?_; simp only [Act.put, List.setIfInBounds_toArray, List.set_cons_succ, List.set_cons_zero])
      | (refine wpLoose_want rfl rfl (fun K hK => ?_); go_big_quiet_op; refine hK _ ?_; clear hK K))
    refine wpLoose_nil ?_
    intro nq
    go_wp2
    refine wp_region_loose KA (by kernel_rfl) (by kernel_rfl) ?_
    repeat (first
      | (refine wpLoose_float rfl _ _ _ _ _ rfl rfl rfl rfl (by first | assumption | exact Rel.abs (by assumption) | exact Rel.refl (by decide) | exact rel_int _) (by first | assumption | exact Rel.abs (by assumption) | exact Rel.refl (by decide) | exact rel_int _) ?_; intro r hr; (try rw [hX0] at hr); simp only [Act.put, List.setIfInBounds_toArray, List.set_cons_succ, List.set_cons_zero])
      | (refine wpLoose_nilCheck rfl _ rfl _ rfl ?_; simp only [Act.put, List.setIfInBounds_toArray, List.set_cons_succ, List.set_cons_zero])
      | (refine wpLoose_want rfl rfl (fun K hK => ?_); go_big_quiet_op; refine hK _ ?_; clear hK K))
    refine wpLoose_nil ?_
    intro nq
    go_wp2
    refine wp_region_loose KA (by kernel_rfl) (by kernel_rfl) ?_
    repeat (first
      | (refine wpLoose_float rfl _ _ _ _ _ rfl rfl rfl rfl (by first | assumption | exact Rel.abs (by assumption) | exact Rel.refl (by decide) | exact rel_int _) (by first | assumption | exact Rel.abs (by assumption) | exact Rel.refl (by decide) | exact rel_int _) ?_; intro r hr; (try rw [hX0] at hr); simp only [Act.put, List.setIfInBounds_toArray, List.set_cons_succ, List.set_cons_zero])
      | (refine wpLoose_nilCheck rfl _ rfl _ rfl ?_; simp only [Act.put, List.setIfInBounds_toArray, List.set_cons_succ, List.set_cons_zero])
      | (refine wpLoose_abs rfl _ _ rfl rfl (by assumption) ?_; simp only [Act.put, List.setIfInBounds_toArray, List.set_cons_succ, List.set_cons_zero])
      | (refine wpLoose_want rfl rfl (fun K hK => ?_); go_big_quiet_op; refine hK _ ?_; clear hK K))
    refine wpLoose_nil ?_
    intro nq
    go_wp2
    go_ret2
    refine ⟨_, _, ?n2, rfl, by assumption, by assumption, ?h2⟩
    case h2 => simp only [World.drewN_drewN]; rfl
end Go.Proofs.Ybulkdpsg

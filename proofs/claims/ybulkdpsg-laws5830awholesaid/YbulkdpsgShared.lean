/- logShare AND compareHalved. -/
import Derived.Test.YbulkdpsgBounds
import Derived.WalkSmall
import Derived.Lib.SmallJoins
import Derived.Deep.RegionHeld
namespace Go.Proofs.Ybulkdpsg
open Go Go.RowKit
set_option linter.unusedVariables false

theorem cell_kept {w w' : World} (h : Below w.heap.size w w') {a : Addr} {v : Value} (hc : w.cell? a = some v) : w'.cell? a = some v := by
  rw [h.cell (World.block_lt_of_cell? w a hc)]; exact hc
theorem Sc.kept {w w' : World} (h : Below w.heap.size w w') {sb nb lb hb m inv le : Nat} {sign : Int} {ref : Nat} (S : Sc w sb nb lb hb m inv le sign ref) : Sc w' sb nb lb hb m inv le sign ref :=
  ⟨cell_kept h S.s0, cell_kept h S.s3, cell_kept h S.s4, cell_kept h S.s5, cell_kept h S.s6, cell_kept h S.s7, cell_kept h S.s8⟩
theorem Cd.kept {w w' : World} (h : Below w.heap.size w w') {nb lb hb j ne ls : Nat} {hv : Int} (C : Cd w nb lb hb j ne ls hv) : Cd w' nb lb hb j ne ls hv :=
  ⟨cell_kept h C.n, cell_kept h C.l, cell_kept h C.h, C.ltn, C.ltl⟩

section
variable {W : World} {ops : Array Oper} {rest : List Oper} {o : Oper} {a : Act} {Q : Act → Prop}
/-- The table of a region that calls logRatio once. -/
def KR (V B : Nat) (_ : FuncId) (_ : Array Value) (v : Value) : Prop := ∃ p q, v = .tuple #[.float .f64 p, .float .f64 q] ∧ Rel p V ∧ Rel q B
theorem wpLoose_ratio {V B : Nat} (hw : Region.wanted o (yielded ops a.tmps) = true) (x y z : Operand) (ts : Array TypeId) (ho : o.op = .call { callee := .value (.func 26), args := #[x, y, z], argTypes := ts }) {vx vy vz : Value} (hx : a.eval x = vx) (hy : a.eval y = vy) (hz : a.eval z = vz)
    (hc : ∀ n, Calls Yba.prog 26 #[vx, vy, vz] (W.drewN n) fun e w' => ∃ p q n', e = .returned (.tuple #[.float .f64 p, .float .f64 q]) ∧ Rel p V ∧ Rel q B ∧ w' = (W.drewN n).drewN n')
    (h : ∀ p q, Rel p V → Rel q B → wpLoose Yba.prog W (KR V B) ops Q rest (a.put o.dst (.tuple #[.float .f64 p, .float .f64 q]))) : wpLoose Yba.prog W (KR V B) ops Q (o :: rest) a := by
  refine wpLoose_fn hw #[x, y, z] ts ho en26 #[vx, vy, vz] (by simp [hx, hy, hz]) (fun v => ∃ p q, v = .tuple #[.float .f64 p, .float .f64 q] ∧ Rel p V ∧ Rel q B) (fun n => ?_) (fun v hv => hv) (fun v hv => hv) ?_
  · exact (hc n).mono fun e w' ⟨p, q, n', he, hp, hq, hw'⟩ => ⟨_, he, ⟨p, q, rfl, hp, hq⟩, n + n', by rw [hw', World.drewN_drewN]⟩
  · rintro v ⟨p, q, rfl, hp, hq⟩
    exact h p q hp hq
end

set_option maxRecDepth 100000 in
set_option maxHeartbeats 4000000 in
theorem logshare (w : World) {sb nb lb hb m inv le : Nat} {sign : Int} {ref : Nat} (S : Sc w sb nb lb hb m inv le sign ref) (hinv : Rel inv inv) (hle : Rel le le)
    {j : Nat} (hj : j < m) (href : ref < m) {na la nc lc : Nat} {ha hc : Int} (A : Cd w nb lb hb j na la ha) (C : Cd w nb lb hb ref nc lc hc) (X V B z s1 s2 : Nat) (hX : X = ratX na nc inv) (hV : V = ratV X la lc) (hB : B = ratB X la lc le) (hz : z = zF sign V)
    (h1 : Sh27 (fop .sub z B) 13830554455654793216 sign ha s1) (h2 : Sh27 (fop .add z B) 4607182418800017408 sign ha s2) :
    Calls Yba.prog 17 #[.pointer (some ⟨sb, 0, none⟩), .int .i64 (j : Int)] w fun e w' => ∃ p q, e = .returned (.tuple #[.float .f64 p, .float .f64 q]) ∧ Rel p s1 ∧ Rel q s2 ∧ Below w.heap.size w w' := by
  obtain ⟨W, hW⟩ : ∃ W, (w.alloc (.cells #[.pointer (some ⟨sb, 0, none⟩)] 31)).alloc (.cells #[.int .i64 (j : Int)] 3) = W := ⟨_, rfl⟩
  have hbel : Below w.heap.size w W := by rw [← hW]; exact Joins.below_alloc2 w _ _
  have c1 : W.cell? ⟨w.heap.size, 0, none⟩ = some (.pointer (some ⟨sb, 0, none⟩)) := by rw [← hW]; simp
  have c2 : W.cell? ⟨w.heap.size + 1, 0, none⟩ = some (.int .i64 (j : Int)) := by rw [← hW]; simp
  have S' := S.kept hbel
  have A' := A.kept hbel
  have C' := C.kept hbel
  have hcR : ∀ n, Calls Yba.prog 26 #[.pointer (some ⟨sb, 0, none⟩), .int .i64 (j : Int), .int .i64 (ref : Int)] (W.drewN n) fun e w' => ∃ p q n', e = .returned (.tuple #[.float .f64 p, .float .f64 q]) ∧ Rel p V ∧ Rel q B ∧ w' = (W.drewN n).drewN n' := fun n => by
    rw [hV, hB]
    exact ratio (W.drewN n) (S'.kept (Joins.below_draws _ _ _)) hinv hle hj href (A'.kept (Joins.below_draws _ _ _)) (C'.kept (Joins.below_draws _ _ _)) X hX
  obtain ⟨s0, s3, s4, s5, s6, s7, s8⟩ := S'
  obtain ⟨an, al, ah, ant, alt⟩ := A'
  clear C' C A S hX hV hB
  unfold zF at hz
  have hz := hz.symm
  have rsg := rel_int sign
  go_enter Yba.func17, Yba.ntmps17
  go_wp2
  try rw [hW]
  clear hW
  refine wp_region_loose (KR V B) (by kernel_rfl) (by kernel_rfl) ?_
  repeat (first
    | (refine wpLoose_float rfl _ _ _ _ _ rfl rfl rfl rfl (by first | assumption | exact Rel.abs (by assumption) | exact Rel.refl (by decide) | exact rel_int _) (by first | assumption | exact Rel.abs (by assumption) | exact Rel.refl (by decide) | exact rel_int _) ?_; intro r hr; simp only [Act.put, List.setIfInBounds_toArray, List.set_cons_succ, List.set_cons_zero])
    | (refine wpLoose_nilCheck rfl _ rfl _ rfl ?_; simp only [Act.put, List.setIfInBounds_toArray, List.set_cons_succ, List.set_cons_zero])
    | (refine wpLoose_ratio rfl (.tmp 11) (.tmp 12) (.tmp 16) _ rfl rfl rfl rfl ?_ ?_; exact hcR; intro p q hrp hrq; simp only [Act.put, List.setIfInBounds_toArray, List.set_cons_succ, List.set_cons_zero])
    | (refine wpLoose_want rfl rfl (fun K hK => ?_); go_big_quiet_op; refine hK _ ?_; clear hK K))
  refine wpLoose_nil ?_
  intro nq
  go_wp2_with (first
    | (go_at_call_of 27 (Value.float .f64 13830554455654793216); refine (h1 _ _ sb hb j m hj _ (by assumption) (W.drewN _) c1 c2 s3 s7 ah).mono ?_; rintro e w' ⟨r1, n1, rfl, hr1, rfl⟩)
    | (go_at_call_of 27 (Value.float .f64 4607182418800017408); refine (h2 _ _ sb hb j m hj _ (by assumption) (W.drewN _) c1 c2 s3 s7 ah).mono ?_; rintro e w' ⟨r2, n2, rfl, hr2, rfl⟩)
    | (refine wpList_float rfl _ _ _ _ _ rfl rfl rfl rfl (by first | assumption | exact Rel.abs (by assumption) | exact Rel.refl (by decide) | exact rel_int _) (by first | assumption | exact Rel.abs (by assumption) | exact Rel.refl (by decide) | exact rel_int _) ?_; intro r n hr; (try rw [hz] at hr)))
  go_ret2
  refine ⟨_, _, rfl, by assumption, by assumption, ?_⟩
  exact below_drewN hbel _
end Go.Proofs.Ybulkdpsg

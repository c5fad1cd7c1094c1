/- compareHalved. -/
import Derived.Test.YbulkdpsgShared
namespace Go.Proofs.Ybulkdpsg
open Go Go.RowKit
set_option linter.unusedVariables false

/-- 1, -1 or 0. -/
def cmpF (loA hiA loB hiB : Nat) : Int := if (FloatKind.f64.format.order loA hiB == some .gt) = true then 1 else if (FloatKind.f64.format.order hiA loB == some .lt) = true then -1 else 0
theorem ord_rel {a s b t : Nat} (h : Rel a s) (k : Rel b t) : FloatKind.f64.format.order a b = FloatKind.f64.format.order s t := Rel.order h k

set_option maxRecDepth 100000 in
set_option maxHeartbeats 4000000 in
theorem compare_ok (w : World) {sb : Nat} {ia ib : Nat} {s1 s2 t1 t2 : Nat} (G : World → Prop) (hG : G w) (hGk : ∀ w', Below w.heap.size w w' → G w')
    (cA : ∀ w, G w → Calls Yba.prog 17 #[.pointer (some ⟨sb, 0, none⟩), .int .i64 (ia : Int)] w fun e w' => ∃ p q, e = .returned (.tuple #[.float .f64 p, .float .f64 q]) ∧ Rel p s1 ∧ Rel q s2 ∧ Below w.heap.size w w')
    (cB : ∀ w, G w → Calls Yba.prog 17 #[.pointer (some ⟨sb, 0, none⟩), .int .i64 (ib : Int)] w fun e w' => ∃ p q, e = .returned (.tuple #[.float .f64 p, .float .f64 q]) ∧ Rel p t1 ∧ Rel q t2 ∧ Below w.heap.size w w') :
    Calls Yba.prog 5 #[.pointer (some ⟨sb, 0, none⟩), .int .i64 (ia : Int), .int .i64 (ib : Int)] w fun e w' => e = .returned (.int .i64 (cmpF s1 s2 t1 t2)) ∧ Below w.heap.size w w' := by
  have step : ∀ (r1 r2 q1 q2 : Nat) (_ : Rel r1 s1) (_ : Rel r2 s2) (_ : Rel q1 t1) (_ : Rel q2 t2), FloatKind.f64.format.order r1 q2 = FloatKind.f64.format.order s1 t2 ∧ FloatKind.f64.format.order r2 q1 = FloatKind.f64.format.order s2 t1 := fun r1 r2 q1 q2 h1 h2 h3 h4 => ⟨ord_rel h1 h4, ord_rel h2 h3⟩
  rcases hc1 : (FloatKind.f64.format.order s1 t2 == some .gt) with _ | _
  · rcases hc2 : (FloatKind.f64.format.order s2 t1 == some .lt) with _ | _
    · have hres : cmpF s1 s2 t1 t2 = 0 := by unfold cmpF; rw [hc1, hc2]; rfl
      rw [hres]
      go_enter Yba.func5, Yba.ntmps5
      go_wp2_with (first
        | (go_at_call_of 17 (Value.int .i64 (ia : Int)); refine (cA _ hG).mono ?_; rintro e w1 ⟨p1, p2, rfl, hp1, hp2, hb1⟩)
        | (go_at_call_of 17 (Value.int .i64 (ib : Int)); refine (cB _ (hGk _ hb1)).mono ?_; rintro e w2 ⟨q1, q2, rfl, hq1, hq2, hb2⟩; obtain ⟨o1, o2⟩ := step p1 p2 q1 q2 hp1 hp2 hq1 hq2))
      go_ret
      exact ⟨rfl, hb1.trans (hb2.mono hb1.size)⟩
    · have hres : cmpF s1 s2 t1 t2 = -1 := by unfold cmpF; rw [hc1, hc2]; rfl
      rw [hres]
      go_enter Yba.func5, Yba.ntmps5
      go_wp2_with (first
        | (go_at_call_of 17 (Value.int .i64 (ia : Int)); refine (cA _ hG).mono ?_; rintro e w1 ⟨p1, p2, rfl, hp1, hp2, hb1⟩)
        | (go_at_call_of 17 (Value.int .i64 (ib : Int)); refine (cB _ (hGk _ hb1)).mono ?_; rintro e w2 ⟨q1, q2, rfl, hq1, hq2, hb2⟩; obtain ⟨o1, o2⟩ := step p1 p2 q1 q2 hp1 hp2 hq1 hq2))
      go_ret
      exact ⟨rfl, hb1.trans (hb2.mono hb1.size)⟩
  · have hres : cmpF s1 s2 t1 t2 = 1 := by unfold cmpF; rw [hc1]; rfl
    rw [hres]
    go_enter Yba.func5, Yba.ntmps5
    go_wp2_with (first
      | (go_at_call_of 17 (Value.int .i64 (ia : Int)); refine (cA _ hG).mono ?_; rintro e w1 ⟨p1, p2, rfl, hp1, hp2, hb1⟩)
      | (go_at_call_of 17 (Value.int .i64 (ib : Int)); refine (cB _ (hGk _ hb1)).mono ?_; rintro e w2 ⟨q1, q2, rfl, hq1, hq2, hb2⟩; obtain ⟨o1, o2⟩ := step p1 p2 q1 q2 hp1 hp2 hq1 hq2))
    go_ret
    exact ⟨rfl, hb1.trans (hb2.mono hb1.size)⟩
end Go.Proofs.Ybulkdpsg

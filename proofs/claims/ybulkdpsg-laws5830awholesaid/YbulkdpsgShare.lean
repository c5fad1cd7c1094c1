/- THE SHARE AT z: the law's own function. -/
import Derived.Test.YbulkdpsgLog
namespace Go.Proofs.Ybulkdpsg
open Go Go.RowKit
set_option linter.unusedVariables false

def Em (x s : Nat) : Prop := ∀ x', Rel x' x → ∀ w, Calls Yba.prog 30 #[.float .f64 x'] w fun e w' => ∃ r, e = .returned (.float .f64 r) ∧ Rel r s ∧ w = w'

/-- The logarithm of the share, moved to side: v is what stands behind the halvings. -/
def shV (l z : Nat) (sign : Int) (h : Nat) : Nat := fop .sub (if 0 < sign then fop .add l z else l) (fop .mul h 4604418534313441775)
def shF (v z side h : Nat) : Nat := fop .add v (fop .mul (fop .mul (fop .mul side 4625196817309499392) 4368491638549381120) (fop .add (fop .add (fop .add (fabs v) z) h) 4607182418800017408))

theorem Rel.lt' {a s : Nat} (h : Rel a s) : s < 18446744073709551616 := by
  rcases h with ⟨rfl, h⟩ | ⟨_, h⟩
  · exact h
  · exact h.1

/-- 'z <= 0'. -/
def nonpos (z : Nat) : Bool := FloatKind.f64.format.order z 0 == some .lt || FloatKind.f64.format.order z 0 == some .eq
theorem nonpos_rel {z' z : Nat} (h : Rel z' z) : (FloatKind.f64.format.order z' 0 == some .lt || FloatKind.f64.format.order z' 0 == some .eq) = nonpos z := by
  unfold nonpos
  have : FloatKind.f64.format.order z' 0 = FloatKind.f64.format.order z 0 := Rel.order h (Rel.refl (by decide))
  rw [this]

theorem inf_share (z side : Nat) (sign : Int) (h : Nat) (hz : nonpos z = true) (z' : Nat) (hr : Rel z' z) (w : World) :
    Calls Yba.prog 20 #[.float .f64 z', .float .f64 side, .int .i64 sign, .float .f64 h] w fun e w' => e = .returned (.float .f64 18442240474082181120) ∧ w = w' := by
  have f := nonpos_rel hr
  rw [hz] at f
  clear hz hr
  go_enter Yba.func20, Yba.ntmps20
  go_wp2_with (go_at_call 28; refine (inf_neg _).mono ?_; rintro e w' ⟨rfl, rfl⟩)
  go_ret
  exact ⟨rfl, rfl⟩

set_option maxRecDepth 100000 in
set_option maxHeartbeats 4000000 in
theorem num_share (z side : Nat) (sign : Int) (h e l v : Nat) (hz : nonpos z = false) (rs : Rel side side) (rh : Rel h h) (he : Em (fneg z) e) (hl : Lg (fneg e) l) (hv : v = shV l z sign h) (z' : Nat) (hr : Rel z' z) (w : World) :
    Calls Yba.prog 20 #[.float .f64 z', .float .f64 side, .int .i64 sign, .float .f64 h] w fun e w' => ∃ r n, e = .returned (.float .f64 r) ∧ Rel r (shF v z side h) ∧ w' = w.drewN n := by
  have f := nonpos_rel hr
  rw [hz] at f
  have hn := run_neg z' hr.lt
  have hrn := hr.neg
  clear hz
  by_cases hs : 0 < sign
  · have hv' : fop .sub (fop .add l z) (fop .mul h 4604418534313441775) = v := by rw [hv]; unfold shV; rw [if_pos hs]
    clear hv
    go_enter Yba.func20, Yba.ntmps20
    go_wp2_with (first
      | (go_at_call 30; refine (he _ hrn _).mono ?_; rintro e w' ⟨re, rfl, hre, rfl⟩; have hn2 := run_neg re hre.lt; have hre2 := hre.neg)
      | (go_at_call 29; refine (hl _ hre2 _).mono ?_; rintro e w' ⟨rl, n, rfl, hrl, rfl⟩)
      | (go_at_call 19; refine (abs_any _ (by first | (exact Rel.lt (by assumption))) _).mono ?_; rintro e w' ⟨rfl, rfl⟩)
      | (refine wpList_float rfl _ _ _ _ _ rfl rfl rfl rfl (by first | assumption | exact Rel.abs (by assumption) | exact Rel.refl (by decide)) (by first | assumption | exact Rel.refl (by decide)) ?_; intro r n hr; try rw [hv'] at hr))
    go_ret
    exact ⟨_, _, rfl, by assumption, rfl⟩
  · have hv' : fop .sub l (fop .mul h 4604418534313441775) = v := by rw [hv]; unfold shV; rw [if_neg hs]
    clear hv
    go_enter Yba.func20, Yba.ntmps20
    go_wp2_with (first
      | (go_at_call 30; refine (he _ hrn _).mono ?_; rintro e w' ⟨re, rfl, hre, rfl⟩; have hn2 := run_neg re hre.lt; have hre2 := hre.neg)
      | (go_at_call 29; refine (hl _ hre2 _).mono ?_; rintro e w' ⟨rl, n, rfl, hrl, rfl⟩)
      | (go_at_call 19; refine (abs_any _ (by first | (exact Rel.lt (by assumption))) _).mono ?_; rintro e w' ⟨rfl, rfl⟩)
      | (refine wpList_float rfl _ _ _ _ _ rfl rfl rfl rfl (by first | assumption | exact Rel.abs (by assumption) | exact Rel.refl (by decide)) (by first | assumption | exact Rel.refl (by decide)) ?_; intro r n hr; try rw [hv'] at hr))
    go_ret
    exact ⟨_, _, rfl, by assumption, rfl⟩
end Go.Proofs.Ybulkdpsg

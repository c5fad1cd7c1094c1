/- math.Expm1 AT A NEGATIVE ARGUMENT OR A NaN: one answer, up to a NaN's bits. -/
import Derived.Test.YbulkdpsgExp
namespace Go.Proofs.Ybulkdpsg
open Go Go.RowKit
set_option linter.unusedVariables false

set_option maxRecDepth 100000 in
set_option maxHeartbeats 4000000 in
theorem exp_nan (x : Nat) (h : NaN x) (w : World) : Calls Yba.prog 44 #[.float .f64 x] w fun e w' => e = .returned (.float .f64 x) ∧ w = w' := by
  have f2 : (FloatKind.f64.format.order x 9218868437227405311 == some .gt) = false := by
    show (D.order x _ == _) = _
    rw [order_left _ h]; rfl
  have f3 : (FloatKind.f64.format.order x x != some .eq) = true := by
    show (D.order x _ != _) = _
    rw [order_left _ h]; rfl
  go_enter Yba.func44, Yba.ntmps44
  go_wp2_with (first | (go_at_call 55; refine (isnan_any x true f3 _).mono ?_; rintro e w' ⟨rfl, rfl⟩) | (go_at_call_of 56 (Value.int .i64 1); refine (isinf_1 x false f2 _).mono ?_; rintro e w' ⟨rfl, rfl⟩))
  go_ret
  exact ⟨rfl, rfl⟩
set_option maxRecDepth 100000 in
set_option maxHeartbeats 4000000 in
theorem exp_inf (w : World) : Calls Yba.prog 44 #[.float .f64 18442240474082181120] w fun e w' => e = .returned (.float .f64 13830554455654793216) ∧ w = w' := by
  have f2 : (FloatKind.f64.format.order 18442240474082181120 9218868437227405311 == some .gt) = false := by decide +kernel
  have f3 : (FloatKind.f64.format.order 18442240474082181120 18442240474082181120 != some .eq) = false := by decide +kernel
  have f4 : (FloatKind.f64.format.order (fneg 18442240474082181120) 9218868437227405311 == some .gt) = true := by decide +kernel
  go_enter Yba.func44, Yba.ntmps44
  go_wp2_with (first | (go_at_call 55; refine (isnan_any 18442240474082181120 false f3 _).mono ?_; rintro e w' ⟨rfl, rfl⟩) | (go_at_call_of 56 (Value.int .i64 1); refine (isinf_1 18442240474082181120 false f2 _).mono ?_; rintro e w' ⟨rfl, rfl⟩) | (go_at_call 56; refine (isinf_m1 18442240474082181120 true f4 (by decide) _).mono ?_; rintro e w' ⟨rfl, rfl⟩))
  go_ret
  exact ⟨rfl, rfl⟩

theorem cmp_gt (a b : Int) : (some (compare a b) == some Ordering.gt) = decide (b < a) := by
  simp only [compare, compareOfLessAndEq]
  rcases Int.lt_trichotomy a b with h | h | h
  · rw [if_pos h, decide_eq_false (by omega)]; rfl
  · subst h; rw [if_neg (by omega), if_pos rfl, decide_eq_false (by omega)]; rfl
  · rw [if_neg (by omega), if_neg (by omega), decide_eq_true h]; rfl
theorem cmp_lt (a b : Int) : (some (compare a b) == some Ordering.lt) = decide (a < b) := by
  simp only [compare, compareOfLessAndEq]
  rcases Int.lt_trichotomy a b with h | h | h
  · rw [if_pos h, decide_eq_true h]; rfl
  · subst h; rw [if_neg (by omega), if_pos rfl, decide_eq_false (by omega)]; rfl
  · rw [if_neg (by omega), if_neg (by omega), decide_eq_false (by omega)]; rfl
theorem cmp_eq (a b : Int) : (some (compare a b) == some Ordering.eq) = decide (a = b) := by
  simp only [compare, compareOfLessAndEq]
  rcases Int.lt_trichotomy a b with h | h | h
  · rw [if_pos h, decide_eq_false (by omega)]; rfl
  · subst h; rw [if_neg (by omega), if_pos rfl, decide_eq_true rfl]; rfl
  · rw [if_neg (by omega), if_neg (by omega), decide_eq_false (by omega)]; rfl

theorem val_pos {R : Nat} (h : 0 < R) : 0 < val R := by
  have := val_mono (show 1 ≤ R from h)
  have e : val 1 = 1 := by unfold val; rw [if_pos (by decide)]
  omega
theorem fin_max : Fin 9218868437227405311 := ⟨by decide, by decide⟩
theorem fin_zero : Fin 0 := ⟨by decide, by decide⟩
theorem fin_tiny : Fin 4363988038922010624 := ⟨by decide, by decide⟩
theorem sg_zero : sg 0 = 0 := by
  unfold sg rungOf val
  rw [if_pos (by decide), if_pos (by decide)]; rfl

/-- What a finite negative float is. -/
structure NF (x : Nat) : Prop where
  big : 9223372036854775808 < x
  fin : Fin x
theorem NF.neg {x : Nat} (h : NF x) : sg x < 0 := by
  have h1 := h.big; obtain ⟨h2, h3⟩ := h.fin
  have : 0 < rungOf x := by unfold rungOf; omega
  have := val_pos this
  unfold sg
  rw [if_neg (by omega)]; omega
theorem NF.abs {x : Nat} (h : NF x) : Fin (fneg x) ∧ sg (fneg x) = -sg x := by
  have h1 := h.big; have h2 := h.fin
  obtain ⟨e1, e2⟩ := fneg_rung x h2.1
  refine ⟨⟨e2, by rw [e1]; exact h2.2⟩, ?_⟩
  have h0 := h2.1
  have h3 : fneg x < 9223372036854775808 := by unfold fneg; split <;> omega
  unfold sg
  rw [e1, if_neg (show ¬ x < 9223372036854775808 by omega), if_pos h3, Int.neg_neg]
theorem NF.negFin {x : Nat} (h : NF x) : NegFin x := by
  have hn := h.neg
  obtain ⟨ha, hs⟩ := h.abs
  have hm : sg 9218868437227405311 = (val 9218868437227405311 : Int) := by unfold sg; rw [if_pos (by decide)]; rfl
  have hv : sg (fneg x) ≤ sg 9218868437227405311 := by
    rw [hm]
    have h1 := h.big; have h2 := h.fin.1
    have h3 : fneg x < 9223372036854775808 := by unfold fneg; split <;> omega
    unfold sg
    rw [if_pos h3]
    exact Int.ofNat_le.2 (val_mono (by have := ha.2; omega))
  refine ⟨h.fin.1, ?_, ?_, ?_, ?_⟩
  · show (D.order x _ == _) = _
    rw [order_fin h.fin fin_max, cmp_gt]; exact decide_eq_false (by omega)
  · show (!(D.order x x == _)) = _
    rw [order_fin h.fin h.fin, cmp_eq, decide_eq_true rfl]; rfl
  · show (D.order (fneg x) _ == _) = _
    rw [order_fin ha fin_max, cmp_gt]; exact decide_eq_false (by omega)
  · show (D.order x _ == _) = _
    rw [order_fin h.fin fin_zero, cmp_lt, sg_zero]; exact decide_eq_true hn

theorem exp_fin (x : Nat) (h : NF x) : ∃ r, r < 18446744073709551616 ∧ ∀ w, Calls Yba.prog 44 #[.float .f64 x] w fun e w' => e = .returned (.float .f64 r) ∧ w = w' := by
  have hf := h.negFin
  have hn := h.neg
  obtain ⟨ha, hs⟩ := h.abs
  have hu : (0 : Int) < ((2 ^ UE : Nat) : Int) := Int.natCast_pos.2 (Nat.two_pow_pos _)
  have k56 := c_x56.2; have kh := c_ln2half.2; have kx := c_ln2halfx3.2
  have o1 : FloatKind.f64.format.order (fneg x) 4630659717731644081 = some (compare (sg (fneg x)) (sg 4630659717731644081)) := order_fin ha c_x56.1
  have o2 : FloatKind.f64.format.order (fneg x) 4599914934686071279 = some (compare (sg (fneg x)) (sg 4599914934686071279)) := order_fin ha c_ln2half.1
  have o3 : FloatKind.f64.format.order (fneg x) 4363988038922010624 = some (compare (sg (fneg x)) (sg 4363988038922010624)) := order_fin ha fin_tiny
  have o4 : FloatKind.f64.format.order (fneg x) 4607361305248770931 = some (compare (sg (fneg x)) (sg 4607361305248770931)) := order_fin ha c_ln2halfx3.1
  by_cases c1 : sg 4630659717731644081 ≤ sg (fneg x)
  · exact exp_big x hf (by rw [o1, cmp_gt, cmp_eq]; simp; omega)
  · have g1 : (FloatKind.f64.format.order (fneg x) 4630659717731644081 == some .gt || FloatKind.f64.format.order (fneg x) 4630659717731644081 == some .eq) = false := by rw [o1, cmp_gt, cmp_eq]; simp; omega
    by_cases c2 : sg 4599914934686071279 < sg (fneg x)
    · have g2 : (FloatKind.f64.format.order (fneg x) 4599914934686071279 == some .gt) = true := by rw [o2, cmp_gt]; exact decide_eq_true c2
      by_cases c4 : sg (fneg x) < sg 4607361305248770931
      · have g4 : (FloatKind.f64.format.order (fneg x) 4607361305248770931 == some .lt) = true := by rw [o4, cmp_lt]; exact decide_eq_true c4
        refine exp_b1 x hf g1 g2 g4 ⟨h.fin, ?_, ?_⟩
        · rw [Int.neg_mul]; omega
        · rw [Int.neg_mul]; omega
      · have g4 : (FloatKind.f64.format.order (fneg x) 4607361305248770931 == some .lt) = false := by rw [o4, cmp_lt]; exact decide_eq_false c4
        obtain ⟨p, k1, k2, ix, ic⟩ := reduce x ⟨h.fin, by rw [Int.neg_mul]; omega, by rw [Int.neg_mul]; omega⟩
        by_cases e0 : p.k = 0
        · exact exp_r0 x hf g1 g2 g4 p ix ic e0
        · by_cases e1 : p.k = -1
          · exact exp_r1 x hf g1 g2 g4 p ix ic e1
          · exact exp_r2 x hf g1 g2 g4 p ix ic k1 (by omega)
    · have g2 : (FloatKind.f64.format.order (fneg x) 4599914934686071279 == some .gt) = false := by rw [o2, cmp_gt]; exact decide_eq_false c2
      by_cases c3 : sg (fneg x) < sg 4363988038922010624
      · have g3 : (FloatKind.f64.format.order (fneg x) 4363988038922010624 == some .lt) = true := by rw [o3, cmp_lt]; exact decide_eq_true c3
        exact ⟨x, h.fin.1, fun w => exp_tiny x hf g1 g2 g3 w⟩
      · have g3 : (FloatKind.f64.format.order (fneg x) 4363988038922010624 == some .lt) = false := by rw [o3, cmp_lt]; exact decide_eq_false c3
        refine exp_k0 x hf g1 g2 g3 ⟨h.fin, ?_, ?_⟩
        · rw [Int.neg_mul]; omega
        · omega

/-- An argument that share hands to Expm1: negative, or a NaN. -/
def NegArg (x : Nat) : Prop := NaN x ∨ (9223372036854775808 < x ∧ x ≤ 18442240474082181120)
theorem exp_any (x : Nat) (h : NegArg x) : ∃ s, s < 18446744073709551616 ∧ ∀ x', Rel x' x → ∀ w, Calls Yba.prog 44 #[.float .f64 x'] w fun e w' => ∃ r, e = .returned (.float .f64 r) ∧ Rel r s ∧ w = w' := by
  rcases h with h | ⟨h1, h2⟩
  · refine ⟨x, h.1, fun x' hr w => ?_⟩
    have hx' : NaN x' := by
      rcases hr with ⟨rfl, _⟩ | ⟨h', _⟩
      · exact h
      · exact h'
    exact (exp_nan x' hx' w).mono fun e w' ⟨he, hw⟩ => ⟨_, he, Rel.nan hx' h, hw⟩
  · have same : ∀ x', Rel x' x → x' = x := fun x' hr => by
      rcases hr with ⟨e, _⟩ | ⟨_, hn⟩
      · exact e
      · have := hn.2; unfold rungOf at this; omega
    by_cases hi : x = 18442240474082181120
    · refine ⟨13830554455654793216, by decide, fun x' hr w => ?_⟩
      rw [same x' hr, hi]
      exact (exp_inf w).mono fun e w' ⟨he, hw⟩ => ⟨_, he, Rel.refl (by decide), hw⟩
    · obtain ⟨s, hs, hc⟩ := exp_fin x ⟨h1, ⟨by omega, by unfold rungOf; omega⟩⟩
      refine ⟨s, hs, fun x' hr w => ?_⟩
      rw [same x' hr]
      exact (hc w).mono fun e w' ⟨he, hw⟩ => ⟨_, he, Rel.refl hs, hw⟩
/-- math.Expm1. -/
theorem expm1_any (x : Nat) (h : NegArg x) : ∃ s, s < 18446744073709551616 ∧ ∀ x', Rel x' x → ∀ w, Calls Yba.prog 30 #[.float .f64 x'] w fun e w' => ∃ r, e = .returned (.float .f64 r) ∧ Rel r s ∧ w = w' := by
  obtain ⟨s, hl, hs⟩ := exp_any x h
  refine ⟨s, hl, fun x' hr w => ?_⟩
  go_enter Yba.func30, Yba.ntmps30
  go_wp2_with (go_at_call 44; refine (hs x' hr _).mono ?_; rintro e w' ⟨r, rfl, hrel, rfl⟩)
  go_ret
  exact ⟨_, rfl, hrel, rfl⟩
end Go.Proofs.Ybulkdpsg

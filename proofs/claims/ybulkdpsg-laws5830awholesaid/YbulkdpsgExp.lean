/- math.Expm1 AT A NEGATIVE ARGUMENT OR A NaN. -/
import Derived.Test.YbulkdpsgAbs
import Derived.Test.YbulkdpsgRed
import Derived.Deep.RegionWith
namespace Go.Proofs.Ybulkdpsg
open Go Go.RowKit
set_option linter.unusedVariables false

theorem rf {op : BinOp} {a b r : Nat} (h : floatBits op .f64 a b = some r) (t : TypeId) (w : World) : (binOp op t (.float .f64 a) (.float .f64 b)).run Yba.prog w = .ok (.float .f64 r) w :=
  run_float_arith w op t .f64 a b r h

theorem run_neg (x : Nat) (hx : x < 18446744073709551616) (w : World) : (Op.unary .neg (.float .f64 x)).run Yba.prog w = .ok (.float .f64 (fneg x)) w := by
  rw [← negFloat_eq x hx]; rfl
theorem isnan_any (x : Nat) (b : Bool) (h : (FloatKind.f64.format.order x x != some .eq) = b) (w : World) : Calls Yba.prog 55 #[.float .f64 x] w fun e w' => e = .returned (.bool b) ∧ w = w' := by
  go_enter Yba.func55, Yba.ntmps55
  go_wp2
  go_ret
  exact ⟨rfl, rfl⟩
theorem isinf_1 (x : Nat) (b : Bool) (h : (FloatKind.f64.format.order x 9218868437227405311 == some .gt) = b) (w : World) : Calls Yba.prog 56 #[.float .f64 x, .int .i64 1] w fun e w' => e = .returned (.bool b) ∧ w = w' := by
  go_enter Yba.func56, Yba.ntmps56
  go_wp2
  go_ret
  exact ⟨rfl, rfl⟩
theorem isinf_m1 (x : Nat) (b : Bool) (h : (FloatKind.f64.format.order (fneg x) 9218868437227405311 == some .gt) = b) (hx : x < 18446744073709551616) (w : World) : Calls Yba.prog 56 #[.float .f64 x, .int .i64 (-1)] w fun e w' => e = .returned (.bool b) ∧ w = w' := by
  have hn := run_neg x hx
  go_enter Yba.func56, Yba.ntmps56
  go_wp2
  go_ret
  exact ⟨rfl, rfl⟩

theorem conv_run (v : Nat) (k : Int) (h : floatToIntVal .f64 v .i64 = some k) (w : World) : (convert 23 3 (.float .f64 v)).run Yba.prog w = .ok (.int .i64 k) w :=
  run_convert_float_int w 23 3 .f64 .i64 v k (by rw [Yba.underlying23]; rfl) Yba.underlying3 h

/-- What is told of a finite negative argument. -/
structure NegFin (x : Nat) : Prop where
  lt : x < 18446744073709551616
  inf1 : (FloatKind.f64.format.order x 9218868437227405311 == some .gt) = false
  nan : (FloatKind.f64.format.order x x != some .eq) = false
  inf2 : (FloatKind.f64.format.order (fneg x) 9218868437227405311 == some .gt) = false
  neg : (FloatKind.f64.format.order x 0 == some .lt) = true

set_option maxRecDepth 100000 in
set_option maxHeartbeats 2000000 in
/-- |x| < 2^-54. -/
theorem exp_tiny (x : Nat) (hx : NegFin x) (g1 : (FloatKind.f64.format.order (fneg x) 4630659717731644081 == some .gt || FloatKind.f64.format.order (fneg x) 4630659717731644081 == some .eq) = false)
    (g2 : (FloatKind.f64.format.order (fneg x) 4599914934686071279 == some .gt) = false) (g3 : (FloatKind.f64.format.order (fneg x) 4363988038922010624 == some .lt) = true) (w : World) :
    Calls Yba.prog 44 #[.float .f64 x] w fun e w' => e = .returned (.float .f64 x) ∧ w = w' := by
  obtain ⟨f1, f2, f3, f4, f5⟩ := hx
  have hn := run_neg x f1
  go_enter Yba.func44, Yba.ntmps44
  go_wp2_with (first | (go_at_call 55; refine (isnan_any x false f3 _).mono ?_; rintro e w' ⟨rfl, rfl⟩) | (go_at_call_of 56 (Value.int .i64 1); refine (isinf_1 x false f2 _).mono ?_; rintro e w' ⟨rfl, rfl⟩) | (go_at_call 56; refine (isinf_m1 x false f4 f1 _).mono ?_; rintro e w' ⟨rfl, rfl⟩))
  go_ret
  exact ⟨rfl, rfl⟩
set_option maxRecDepth 100000 in
set_option maxHeartbeats 4000000 in
/-- |x| at least 56 ln 2. -/
theorem exp_big (x : Nat) (hx : NegFin x) (g1 : (FloatKind.f64.format.order (fneg x) 4630659717731644081 == some .gt || FloatKind.f64.format.order (fneg x) 4630659717731644081 == some .eq) = true) : ∃ r, r < 18446744073709551616 ∧ ∀ w, Calls Yba.prog 44 #[.float .f64 x] w fun e w' => e = .returned (.float .f64 r) ∧ w = w' := by
  obtain ⟨f1, f2, f3, f4, f5⟩ := hx
  have hn := run_neg x f1
  refine ⟨13830554455654793216, by decide, fun w => ?_⟩
  go_enter Yba.func44, Yba.ntmps44
  go_wp2_with (first | (go_at_call 55; refine (isnan_any x false f3 _).mono ?_; rintro e w' ⟨rfl, rfl⟩) | (go_at_call_of 56 (Value.int .i64 1); refine (isinf_1 x false f2 _).mono ?_; rintro e w' ⟨rfl, rfl⟩) | (go_at_call 56; refine (isinf_m1 x false f4 f1 _).mono ?_; rintro e w' ⟨rfl, rfl⟩))
  go_ret
  exact ⟨rfl, rfl⟩
set_option maxRecDepth 100000 in
set_option maxHeartbeats 4000000 in
/-- The primary range itself. -/
theorem exp_k0 (x : Nat) (hx : NegFin x) (g1 : (FloatKind.f64.format.order (fneg x) 4630659717731644081 == some .gt || FloatKind.f64.format.order (fneg x) 4630659717731644081 == some .eq) = false) (g2 : (FloatKind.f64.format.order (fneg x) 4599914934686071279 == some .gt) = false) (g3 : (FloatKind.f64.format.order (fneg x) 4363988038922010624 == some .lt) = false) (i_x : In x (-412316860416) 412316860416) : ∃ r, r < 18446744073709551616 ∧ ∀ w, Calls Yba.prog 44 #[.float .f64 x] w fun e w' => e = .returned (.float .f64 r) ∧ w = w' := by
  obtain ⟨f1, f2, f3, f4, f5⟩ := hx
  have hn := run_neg x f1
  obtain ⟨⟨hfx, hxs, p5, a4, p4, a3, p3, a2, p2, a1, p1, r1, m1, t, n1, m2, d1, qq, e, h_hfx, h_hxs, h_p5, h_a4, h_p4, h_a3, h_p3, h_a2, h_p2, h_a1, h_p1, h_r1, h_m1, h_t, h_n1, h_m2, h_d1, h_qq, h_e⟩, i_hxs, i_e⟩ := primary x i_x
  simp only at i_hxs i_e
  have k_hfx := rf h_hfx
  have k_hxs := rf h_hxs
  have k_p5 := rf h_p5
  have k_a4 := rf h_a4
  have k_p4 := rf h_p4
  have k_a3 := rf h_a3
  have k_p3 := rf h_p3
  have k_a2 := rf h_a2
  have k_p2 := rf h_p2
  have k_a1 := rf h_a1
  have k_p1 := rf h_p1
  have k_r1 := rf h_r1
  have k_m1 := rf h_m1
  have k_t := rf h_t
  have k_n1 := rf h_n1
  have k_m2 := rf h_m2
  have k_d1 := rf h_d1
  have k_qq := rf h_qq
  have k_e := rf h_e
  clear h_hfx h_hxs h_p5 h_a4 h_p4 h_a3 h_p3 h_a2 h_p2 h_a1 h_p1 h_r1 h_m1 h_t h_n1 h_m2 h_d1 h_qq h_e
  obtain ⟨⟨xe, dd, r, h_xe, h_dd, h_r⟩, ir⟩ := tail0 x hxs e i_x i_hxs i_e
  simp only at ir
  have k_xe := rf h_xe
  have k_dd := rf h_dd
  have k_r := rf h_r
  clear h_xe h_dd h_r i_hxs i_e i_x
  refine ⟨r, ir.1, fun w => ?_⟩
  clear ir
  go_enter Yba.func44, Yba.ntmps44
  go_wp2_with (first | (go_at_call 55; refine (isnan_any x false f3 _).mono ?_; rintro e w' ⟨rfl, rfl⟩) | (go_at_call_of 56 (Value.int .i64 1); refine (isinf_1 x false f2 _).mono ?_; rintro e w' ⟨rfl, rfl⟩) | (go_at_call 56; refine (isinf_m1 x false f4 f1 _).mono ?_; rintro e w' ⟨rfl, rfl⟩))
  go_ret
  exact ⟨rfl, rfl⟩

set_option maxRecDepth 100000 in
set_option maxHeartbeats 4000000 in
/-- Between ln2/2 and 3 ln2/2. -/
theorem exp_b1 (x : Nat) (hx : NegFin x) (g1 : (FloatKind.f64.format.order (fneg x) 4630659717731644081 == some .gt || FloatKind.f64.format.order (fneg x) 4630659717731644081 == some .eq) = false) (g2 : (FloatKind.f64.format.order (fneg x) 4599914934686071279 == some .gt) = true) (g4 : (FloatKind.f64.format.order (fneg x) 4607361305248770931 == some .lt) = true) (ix : In x (-1143185077179) (-381061692392)) : ∃ r, r < 18446744073709551616 ∧ ∀ w, Calls Yba.prog 44 #[.float .f64 x] w fun e w' => e = .returned (.float .f64 r) ∧ w = w' := by
  obtain ⟨f1, f2, f3, f4, f5⟩ := hx
  have hn := run_neg x f1
  obtain ⟨⟨hi, x', c1, c, h_hi, h_x', h_c1, h_c⟩, i_x, i_c⟩ := reduce1 x ix
  simp only at i_x i_c
  have k_hi := rf h_hi
  have k_x' := rf h_x'
  have k_c1 := rf h_c1
  have k_c := rf h_c
  clear h_hi h_x' h_c1 h_c
  obtain ⟨⟨hfx, hxs, p5, a4, p4, a3, p3, a2, p2, a1, p1, r1, m1, t, n1, m2, d1, qq, e, h_hfx, h_hxs, h_p5, h_a4, h_p4, h_a3, h_p3, h_a2, h_p2, h_a1, h_p1, h_r1, h_m1, h_t, h_n1, h_m2, h_d1, h_qq, h_e⟩, i_hxs, i_e⟩ := primary x' i_x
  simp only at i_hxs i_e
  have k_hfx := rf h_hfx
  have k_hxs := rf h_hxs
  have k_p5 := rf h_p5
  have k_a4 := rf h_a4
  have k_p4 := rf h_p4
  have k_a3 := rf h_a3
  have k_p3 := rf h_p3
  have k_a2 := rf h_a2
  have k_p2 := rf h_p2
  have k_a1 := rf h_a1
  have k_p1 := rf h_p1
  have k_r1 := rf h_r1
  have k_m1 := rf h_m1
  have k_t := rf h_t
  have k_n1 := rf h_n1
  have k_m2 := rf h_m2
  have k_d1 := rf h_d1
  have k_qq := rf h_qq
  have k_e := rf h_e
  clear h_hfx h_hxs h_p5 h_a4 h_p4 h_a3 h_p3 h_a2 h_p2 h_a1 h_p1 h_r1 h_m1 h_t h_n1 h_m2 h_d1 h_qq h_e
  obtain ⟨⟨ec, xe, e2, e3, h_ec, h_xe, h_e2, h_e3⟩, i_e3⟩ := tail x' hxs e c i_x i_hxs i_e i_c
  simp only at i_e3
  have k_ec := rf h_ec
  have k_xe := rf h_xe
  have k_e2 := rf h_e2
  have k_e3 := rf h_e3
  clear h_ec h_xe h_e2 h_e3
  obtain ⟨⟨xm, hm, r, h_xm, h_hm, h_r⟩, ir⟩ := tail1 x' e3 i_x i_e3
  simp only at ir
  have k_xm := rf h_xm
  have k_hm := rf h_hm
  have k_r := rf h_r
  clear h_xm h_hm h_r
  refine ⟨r, ir.1, fun w => ?_⟩
  clear ir i_hxs i_e i_x i_c i_e3 ix
  go_enter Yba.func44, Yba.ntmps44
  go_wp2_with (first | (go_at_call 55; refine (isnan_any x false f3 _).mono ?_; rintro e w' ⟨rfl, rfl⟩) | (go_at_call_of 56 (Value.int .i64 1); refine (isinf_1 x false f2 _).mono ?_; rintro e w' ⟨rfl, rfl⟩) | (go_at_call 56; refine (isinf_m1 x false f4 f1 _).mono ?_; rintro e w' ⟨rfl, rfl⟩))
  go_ret
  exact ⟨rfl, rfl⟩

set_option maxRecDepth 100000 in
set_option maxHeartbeats 4000000 in
/-- Reduced, k = 0. -/
theorem exp_r0 (x : Nat) (hx : NegFin x) (g1 : (FloatKind.f64.format.order (fneg x) 4630659717731644081 == some .gt || FloatKind.f64.format.order (fneg x) 4630659717731644081 == some .eq) = false) (g2 : (FloatKind.f64.format.order (fneg x) 4599914934686071279 == some .gt) = true) (g4 : (FloatKind.f64.format.order (fneg x) 4607361305248770931 == some .lt) = false) (p : Red x) (i_x : In p.x' (-412316860416) 412316860416) (i_c : In p.c (-30000) 30000) (hk : p.k = 0) : ∃ r, r < 18446744073709551616 ∧ ∀ w, Calls Yba.prog 44 #[.float .f64 x] w fun e w' => e = .returned (.float .f64 r) ∧ w = w' := by
  obtain ⟨f1, f2, f3, f4, f5⟩ := hx
  have hn := run_neg x f1
  obtain ⟨v1, v2, k, pk, hi, lo, x', c1, c, h_v1, h_v2, h_k, h_pk, h_hi, h_lo, h_x', h_c1, h_c⟩ := p
  simp only at i_x i_c hk
  have k_v1 := rf h_v1
  have k_v2 := rf h_v2
  have k_k := conv_run v2 k h_k
  have k_pk := rf h_pk
  have k_hi := rf h_hi
  have k_lo := rf h_lo
  have k_x' := rf h_x'
  have k_c1 := rf h_c1
  have k_c := rf h_c
  clear h_v1 h_v2 h_k h_pk h_hi h_lo h_x' h_c1 h_c
  subst hk
  obtain ⟨⟨hfx, hxs, p5, a4, p4, a3, p3, a2, p2, a1, p1, r1, m1, t, n1, m2, d1, qq, e, h_hfx, h_hxs, h_p5, h_a4, h_p4, h_a3, h_p3, h_a2, h_p2, h_a1, h_p1, h_r1, h_m1, h_t, h_n1, h_m2, h_d1, h_qq, h_e⟩, i_hxs, i_e⟩ := primary x' i_x
  simp only at i_hxs i_e
  have k_hfx := rf h_hfx
  have k_hxs := rf h_hxs
  have k_p5 := rf h_p5
  have k_a4 := rf h_a4
  have k_p4 := rf h_p4
  have k_a3 := rf h_a3
  have k_p3 := rf h_p3
  have k_a2 := rf h_a2
  have k_p2 := rf h_p2
  have k_a1 := rf h_a1
  have k_p1 := rf h_p1
  have k_r1 := rf h_r1
  have k_m1 := rf h_m1
  have k_t := rf h_t
  have k_n1 := rf h_n1
  have k_m2 := rf h_m2
  have k_d1 := rf h_d1
  have k_qq := rf h_qq
  have k_e := rf h_e
  clear h_hfx h_hxs h_p5 h_a4 h_p4 h_a3 h_p3 h_a2 h_p2 h_a1 h_p1 h_r1 h_m1 h_t h_n1 h_m2 h_d1 h_qq h_e
  obtain ⟨⟨xe, dd, r, h_xe, h_dd, h_r⟩, ir⟩ := tail0 x' hxs e i_x i_hxs i_e
  simp only at ir
  have k_xe := rf h_xe
  have k_dd := rf h_dd
  have k_r := rf h_r
  clear h_xe h_dd h_r
  refine ⟨r, ir.1, fun w => ?_⟩
  clear ir i_hxs i_e i_x i_c
  go_enter Yba.func44, Yba.ntmps44
  go_wp2_with (first | (go_at_call 55; refine (isnan_any x false f3 _).mono ?_; rintro e w' ⟨rfl, rfl⟩) | (go_at_call_of 56 (Value.int .i64 1); refine (isinf_1 x false f2 _).mono ?_; rintro e w' ⟨rfl, rfl⟩) | (go_at_call 56; refine (isinf_m1 x false f4 f1 _).mono ?_; rintro e w' ⟨rfl, rfl⟩))
  go_ret
  exact ⟨rfl, rfl⟩

set_option maxRecDepth 100000 in
set_option maxHeartbeats 4000000 in
/-- Reduced, k = -1. -/
theorem exp_r1 (x : Nat) (hx : NegFin x) (g1 : (FloatKind.f64.format.order (fneg x) 4630659717731644081 == some .gt || FloatKind.f64.format.order (fneg x) 4630659717731644081 == some .eq) = false) (g2 : (FloatKind.f64.format.order (fneg x) 4599914934686071279 == some .gt) = true) (g4 : (FloatKind.f64.format.order (fneg x) 4607361305248770931 == some .lt) = false) (p : Red x) (i_x : In p.x' (-412316860416) 412316860416) (i_c : In p.c (-30000) 30000) (hk : p.k = -1) : ∃ r, r < 18446744073709551616 ∧ ∀ w, Calls Yba.prog 44 #[.float .f64 x] w fun e w' => e = .returned (.float .f64 r) ∧ w = w' := by
  obtain ⟨f1, f2, f3, f4, f5⟩ := hx
  have hn := run_neg x f1
  obtain ⟨v1, v2, k, pk, hi, lo, x', c1, c, h_v1, h_v2, h_k, h_pk, h_hi, h_lo, h_x', h_c1, h_c⟩ := p
  simp only at i_x i_c hk
  have k_v1 := rf h_v1
  have k_v2 := rf h_v2
  have k_k := conv_run v2 k h_k
  have k_pk := rf h_pk
  have k_hi := rf h_hi
  have k_lo := rf h_lo
  have k_x' := rf h_x'
  have k_c1 := rf h_c1
  have k_c := rf h_c
  clear h_v1 h_v2 h_k h_pk h_hi h_lo h_x' h_c1 h_c
  subst hk
  obtain ⟨⟨hfx, hxs, p5, a4, p4, a3, p3, a2, p2, a1, p1, r1, m1, t, n1, m2, d1, qq, e, h_hfx, h_hxs, h_p5, h_a4, h_p4, h_a3, h_p3, h_a2, h_p2, h_a1, h_p1, h_r1, h_m1, h_t, h_n1, h_m2, h_d1, h_qq, h_e⟩, i_hxs, i_e⟩ := primary x' i_x
  simp only at i_hxs i_e
  have k_hfx := rf h_hfx
  have k_hxs := rf h_hxs
  have k_p5 := rf h_p5
  have k_a4 := rf h_a4
  have k_p4 := rf h_p4
  have k_a3 := rf h_a3
  have k_p3 := rf h_p3
  have k_a2 := rf h_a2
  have k_p2 := rf h_p2
  have k_a1 := rf h_a1
  have k_p1 := rf h_p1
  have k_r1 := rf h_r1
  have k_m1 := rf h_m1
  have k_t := rf h_t
  have k_n1 := rf h_n1
  have k_m2 := rf h_m2
  have k_d1 := rf h_d1
  have k_qq := rf h_qq
  have k_e := rf h_e
  clear h_hfx h_hxs h_p5 h_a4 h_p4 h_a3 h_p3 h_a2 h_p2 h_a1 h_p1 h_r1 h_m1 h_t h_n1 h_m2 h_d1 h_qq h_e
  obtain ⟨⟨ec, xe, e2, e3, h_ec, h_xe, h_e2, h_e3⟩, i_e3⟩ := tail x' hxs e c i_x i_hxs i_e i_c
  simp only at i_e3
  have k_ec := rf h_ec
  have k_xe := rf h_xe
  have k_e2 := rf h_e2
  have k_e3 := rf h_e3
  clear h_ec h_xe h_e2 h_e3
  obtain ⟨⟨xm, hm, r, h_xm, h_hm, h_r⟩, ir⟩ := tail1 x' e3 i_x i_e3
  simp only at ir
  have k_xm := rf h_xm
  have k_hm := rf h_hm
  have k_r := rf h_r
  clear h_xm h_hm h_r
  refine ⟨r, ir.1, fun w => ?_⟩
  clear ir i_hxs i_e i_x i_c i_e3
  go_enter Yba.func44, Yba.ntmps44
  go_wp2_with (first | (go_at_call 55; refine (isnan_any x false f3 _).mono ?_; rintro e w' ⟨rfl, rfl⟩) | (go_at_call_of 56 (Value.int .i64 1); refine (isinf_1 x false f2 _).mono ?_; rintro e w' ⟨rfl, rfl⟩) | (go_at_call 56; refine (isinf_m1 x false f4 f1 _).mono ?_; rintro e w' ⟨rfl, rfl⟩))
  go_ret
  exact ⟨rfl, rfl⟩

set_option maxRecDepth 100000 in
set_option maxHeartbeats 4000000 in
/-- Reduced, k at most -2. -/
theorem exp_r2 (x : Nat) (hx : NegFin x) (g1 : (FloatKind.f64.format.order (fneg x) 4630659717731644081 == some .gt || FloatKind.f64.format.order (fneg x) 4630659717731644081 == some .eq) = false) (g2 : (FloatKind.f64.format.order (fneg x) 4599914934686071279 == some .gt) = true) (g4 : (FloatKind.f64.format.order (fneg x) 4607361305248770931 == some .lt) = false) (p : Red x) (i_x : In p.x' (-412316860416) 412316860416) (i_c : In p.c (-30000) 30000) (hk1 : -57 ≤ p.k) (hk2 : p.k ≤ -2) : ∃ r, r < 18446744073709551616 ∧ ∀ w, Calls Yba.prog 44 #[.float .f64 x] w fun e w' => e = .returned (.float .f64 r) ∧ w = w' := by
  obtain ⟨f1, f2, f3, f4, f5⟩ := hx
  have hn := run_neg x f1
  obtain ⟨v1, v2, k, pk, hi, lo, x', c1, c, h_v1, h_v2, h_k, h_pk, h_hi, h_lo, h_x', h_c1, h_c⟩ := p
  simp only at i_x i_c hk1 hk2
  have k_v1 := rf h_v1
  have k_v2 := rf h_v2
  have k_k := conv_run v2 k h_k
  have k_pk := rf h_pk
  have k_hi := rf h_hi
  have k_lo := rf h_lo
  have k_x' := rf h_x'
  have k_c1 := rf h_c1
  have k_c := rf h_c
  clear h_v1 h_v2 h_k h_pk h_hi h_lo h_x' h_c1 h_c
  obtain ⟨⟨hfx, hxs, p5, a4, p4, a3, p3, a2, p2, a1, p1, r1, m1, t, n1, m2, d1, qq, e, h_hfx, h_hxs, h_p5, h_a4, h_p4, h_a3, h_p3, h_a2, h_p2, h_a1, h_p1, h_r1, h_m1, h_t, h_n1, h_m2, h_d1, h_qq, h_e⟩, i_hxs, i_e⟩ := primary x' i_x
  simp only at i_hxs i_e
  have k_hfx := rf h_hfx
  have k_hxs := rf h_hxs
  have k_p5 := rf h_p5
  have k_a4 := rf h_a4
  have k_p4 := rf h_p4
  have k_a3 := rf h_a3
  have k_p3 := rf h_p3
  have k_a2 := rf h_a2
  have k_p2 := rf h_p2
  have k_a1 := rf h_a1
  have k_p1 := rf h_p1
  have k_r1 := rf h_r1
  have k_m1 := rf h_m1
  have k_t := rf h_t
  have k_n1 := rf h_n1
  have k_m2 := rf h_m2
  have k_d1 := rf h_d1
  have k_qq := rf h_qq
  have k_e := rf h_e
  clear h_hfx h_hxs h_p5 h_a4 h_p4 h_a3 h_p3 h_a2 h_p2 h_a1 h_p1 h_r1 h_m1 h_t h_n1 h_m2 h_d1 h_qq h_e
  obtain ⟨⟨ec, xe, e2, e3, h_ec, h_xe, h_e2, h_e3⟩, i_e3⟩ := tail x' hxs e c i_x i_hxs i_e i_c
  simp only at i_e3
  have k_ec := rf h_ec
  have k_xe := rf h_xe
  have k_e2 := rf h_e2
  have k_e3 := rf h_e3
  clear h_ec h_xe h_e2 h_e3
  obtain ⟨⟨ex, y, y', r, h_ex, h_y, h_y', h_r⟩, ir⟩ := tail2 x' e3 k hk1 hk2 i_x i_e3
  simp only at ir
  have k_ex := rf h_ex
  have k_y := rf h_y
  have k_r := rf h_r
  have h7 := bits7
  have h31 := from31
  clear h_ex h_y h_r
  have b1 : (k == 0) = false := by simp; omega
  have b2 : (k == -1) = false := by simp; omega
  have b3 : (k == 1) = false := by simp; omega
  refine ⟨r, ir.1, fun w => ?_⟩
  clear ir i_hxs i_e i_x i_c i_e3
  go_enter Yba.func44, Yba.ntmps44
  go_wp2_with (first | (go_at_call 55; refine (isnan_any x false f3 _).mono ?_; rintro e w' ⟨rfl, rfl⟩) | (go_at_call_of 56 (Value.int .i64 1); refine (isinf_1 x false f2 _).mono ?_; rintro e w' ⟨rfl, rfl⟩) | (go_at_call 56; refine (isinf_m1 x false f4 f1 _).mono ?_; rintro e w' ⟨rfl, rfl⟩))
  go_ret
  exact ⟨rfl, rfl⟩
end Go.Proofs.Ybulkdpsg

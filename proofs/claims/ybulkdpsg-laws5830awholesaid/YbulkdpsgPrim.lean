/- math.expm1's PRIMARY RANGE: no operation there gives a NaN. -/
import Derived.Test.YbulkdpsgConv
namespace Go.Proofs.Ybulkdpsg
open Go

/-- A product of two bounded floats. -/
theorem in_mul_abs {x y : Nat} {a b : Int} (P : Int) (hx : In x (-a) a) (hy : In y (-b) b) (h2 : P < 9007199254740992) (hP : a * b ≤ P * 1099511627776) (ha : 0 ≤ a) (hb : 0 ≤ b) :
    ∃ r, floatBits .mul .f64 x y = some r ∧ In r (-P) P := by
  have h0 : 0 ≤ a * b := Int.mul_nonneg ha hb
  refine in_mul (-P) P hx hy (by omega) h2 ?_ ?_ ?_ ?_ ?_ ?_ ?_ ?_ <;> (try simp only [Int.neg_mul, Int.mul_neg, Int.neg_neg]) <;> omega
/-- A wider interval. -/
theorem In.wide {x : Nat} {a b c d : Int} (h : In x a b) (h1 : c ≤ a) (h2 : b ≤ d) : In x c d := by
  have hu : (0 : Int) ≤ ((2 ^ UE : Nat) : Int) := Int.natCast_nonneg _
  exact ⟨h.1, Int.le_trans (Int.mul_le_mul_of_nonneg_right h1 hu) h.2.1, Int.le_trans h.2.2 (Int.mul_le_mul_of_nonneg_right h2 hu)⟩

/-- The road through the primary range: each operation's operands and result. -/
structure Prim (x : Nat) where
  hfx : Nat
  hxs : Nat
  p5 : Nat
  a4 : Nat
  p4 : Nat
  a3 : Nat
  p3 : Nat
  a2 : Nat
  p2 : Nat
  a1 : Nat
  p1 : Nat
  r1 : Nat
  m1 : Nat
  t : Nat
  n1 : Nat
  m2 : Nat
  d1 : Nat
  qq : Nat
  e : Nat
  h_hfx : floatBits .mul .f64 4602678819172646912 x = some hfx
  h_hxs : floatBits .mul .f64 x hfx = some hxs
  h_p5 : floatBits .mul .f64 hxs 13730065378259354413 = some p5
  h_a4 : floatBits .add .f64 4526346094260933177 p5 = some a4
  h_p4 : floatBits .mul .f64 hxs a4 = some p4
  h_a3 : floatBits .add .f64 13768856570209950647 p4 = some a3
  h_p3 : floatBits .mul .f64 hxs a3 = some p3
  h_a2 : floatBits .add .f64 4564962959435912581 p3 = some a2
  h_p2 : floatBits .mul .f64 hxs a2 = some p2
  h_a1 : floatBits .add .f64 13808336697493098740 p2 = some a1
  h_p1 : floatBits .mul .f64 hxs a1 = some p1
  h_r1 : floatBits .add .f64 4607182418800017408 p1 = some r1
  h_m1 : floatBits .mul .f64 r1 hfx = some m1
  h_t : floatBits .sub .f64 4613937818241073152 m1 = some t
  h_n1 : floatBits .sub .f64 r1 t = some n1
  h_m2 : floatBits .mul .f64 x t = some m2
  h_d1 : floatBits .sub .f64 4618441417868443648 m2 = some d1
  h_qq : floatBits .quo .f64 n1 d1 = some qq
  h_e : floatBits .mul .f64 hxs qq = some e

theorem primary (x : Nat) (hx : In x (-412316860416) 412316860416) : ∃ p : Prim x, In p.hxs (-77309411328) 77309411328 ∧ In p.e (-53000000000) 53000000000 := by
  obtain ⟨hfx, h_hfx, i_hfx⟩ := in_mul_abs 206158430208 (c_half.wide (c := -549755813888) (d := 549755813888) (by decide) (by decide)) hx (by decide) (by decide) (by decide) (by decide)
  obtain ⟨hxs, h_hxs, i_hxs⟩ := in_mul_abs 77309411328 hx i_hfx (by decide) (by decide) (by decide) (by decide)
  obtain ⟨p5, h_p5, i_p5⟩ := in_mul_abs 16000 i_hxs (c_q5.wide (c := -221111) (d := 221111) (by decide) (by decide)) (by decide) (by decide) (by decide) (by decide)
  obtain ⟨a4, h_a4, i_a4⟩ := in_add c_q4 i_p5 (by decide) (by decide)
  obtain ⟨p4, h_p4, i_p4⟩ := in_mul_abs 312000 i_hxs (i_a4.wide (c := -4423083) (d := 4423083) (by decide) (by decide)) (by decide) (by decide) (by decide) (by decide)
  obtain ⟨a3, h_a3, i_a3⟩ := in_add c_q3 i_p4 (by decide) (by decide)
  obtain ⟨p3, h_p3, i_p3⟩ := in_mul_abs 6200000 i_hxs (i_a3.wide (c := -87574824) (d := 87574824) (by decide) (by decide)) (by decide) (by decide) (by decide) (by decide)
  obtain ⟨a2, h_a2, i_a2⟩ := in_add c_q2 i_p3 (by decide) (by decide)
  obtain ⟨p2, h_p2, i_p2⟩ := in_mul_abs 124000000 i_hxs (i_a2.wide (c := -1751456552) (d := 1751456552) (by decide) (by decide)) (by decide) (by decide) (by decide) (by decide)
  obtain ⟨a1, h_a1, i_a1⟩ := in_add c_q1 i_p2 (by decide) (by decide)
  obtain ⟨p1, h_p1, i_p1⟩ := in_mul_abs 2600000000 i_hxs (i_a1.wide (c := -36774387593) (d := 36774387593) (by decide) (by decide)) (by decide) (by decide) (by decide) (by decide)
  obtain ⟨r1, h_r1, i_r1⟩ := in_add c_one i_p1 (by decide) (by decide)
  obtain ⟨m1, h_m1, i_m1⟩ := in_mul_abs 206700000000 (i_r1.wide (c := -1102111627776) (d := 1102111627776) (by decide) (by decide)) i_hfx (by decide) (by decide) (by decide) (by decide)
  obtain ⟨t, h_t, i_t⟩ := in_sub c_three i_m1 (by decide) (by decide)
  obtain ⟨n1, h_n1, i_n1⟩ := in_sub i_r1 i_t (by decide) (by decide)
  obtain ⟨m2, h_m2, i_m2⟩ := in_mul_abs 1315000000000 hx (i_t.wide (c := -3505234883328) (d := 3505234883328) (by decide) (by decide)) (by decide) (by decide) (by decide) (by decide)
  obtain ⟨d1, h_d1, i_d1⟩ := in_sub c_six i_m2 (by decide) (by decide)
  obtain ⟨qq, h_qq, i_qq⟩ := in_div 2408323255552 752100000000 i_n1 i_d1 (by decide) (by decide) (by decide) (by decide) (by decide)
  obtain ⟨e, h_e, i_e⟩ := in_mul_abs 53000000000 i_hxs i_qq (by decide) (by decide) (by decide) (by decide)
  exact ⟨⟨hfx, hxs, p5, a4, p4, a3, p3, a2, p2, a1, p1, r1, m1, t, n1, m2, d1, qq, e, h_hfx, h_hxs, h_p5, h_a4, h_p4, h_a3, h_p3, h_a2, h_p2, h_a1, h_p1, h_r1, h_m1, h_t, h_n1, h_m2, h_d1, h_qq, h_e⟩, i_hxs, i_e⟩
end Go.Proofs.Ybulkdpsg

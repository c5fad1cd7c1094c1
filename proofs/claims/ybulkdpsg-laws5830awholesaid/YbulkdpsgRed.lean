/- math.expm1's ARGUMENT REDUCTION AT A NEGATIVE ARGUMENT, AND WHAT STANDS BEHIND THE PRIMARY RANGE: no operation gives a NaN; the conversion to int is in range; the bits that are looked at are a number's. -/
import Derived.Test.YbulkdpsgPrim
import Derived.Laws.Bits64b
namespace Go.Proofs.Ybulkdpsg
open Go

/-- Every finite float lies between two whole multiples of the unit. -/
theorem in_floor {x : Nat} {a b : Int} (h : In x a b) : ∃ xi : Int, In x xi (xi + 1) ∧ a ≤ xi ∧ xi ≤ b := by
  have hu : (0 : Int) < ((2 ^ UE : Nat) : Int) := Int.natCast_pos.2 (Nat.two_pow_pos _)
  obtain ⟨h1, h2, h3⟩ := h
  refine ⟨sg x / ((2 ^ UE : Nat) : Int), ⟨h1, Int.ediv_mul_le _ (Int.ne_of_gt hu), ?_⟩, ?_, ?_⟩
  · have := Int.lt_ediv_add_one_mul_self (sg x) hu
    omega
  · exact (Int.le_ediv_iff_mul_le hu).2 h2
  · have : sg x / ((2 ^ UE : Nat) : Int) * ((2 ^ UE : Nat) : Int) ≤ b * ((2 ^ UE : Nat) : Int) := Int.le_trans (Int.ediv_mul_le _ (Int.ne_of_gt hu)) h3
    exact Int.le_of_mul_le_mul_right this hu

theorem lin_x (xi k P Q : Int) (hP : P = 1586259972793 * xi / 1099511627776) (hQ : Q = -(-(1586259972792 * (xi + 1)) / 1099511627776)) (h1 : -42678909548006 ≤ xi) (h2 : xi ≤ -1)
    (k1 : P - 549755813888 ≤ k * 1099511627776) (k2 : (k - 1) * 1099511627776 < Q - 549755813888) :
    -57 ≤ k ∧ -412316860000 ≤ xi - k * 762123384576 - k * 209 ∧ xi + 1 - k * 762123384576 - k * 210 ≤ 412316860000 := by
  omega

structure Red (x : Nat) where
  v1 : Nat
  v2 : Nat
  k : Int
  pk : Nat
  hi : Nat
  lo : Nat
  x' : Nat
  c1 : Nat
  c : Nat
  h_v1 : floatBits .mul .f64 4609176140021203710 x = some v1
  h_v2 : floatBits .sub .f64 v1 4602678819172646912 = some v2
  h_k : floatToIntVal .f64 v2 .i64 = some k
  h_pk : floatBits .mul .f64 (floatOfInt .f64 k) 4604418534311723008 = some pk
  h_hi : floatBits .sub .f64 x pk = some hi
  h_lo : floatBits .mul .f64 (floatOfInt .f64 k) 4461442080421002358 = some lo
  h_x' : floatBits .sub .f64 hi lo = some x'
  h_c1 : floatBits .sub .f64 hi x' = some c1
  h_c : floatBits .sub .f64 c1 lo = some c

theorem reduce (x : Nat) (hx : In x (-42678909548006) (-1)) : ∃ p : Red x, -57 ≤ p.k ∧ p.k ≤ 0 ∧ In p.x' (-412316860416) 412316860416 ∧ In p.c (-30000) 30000 := by
  obtain ⟨xi, ix, b1, b2⟩ := in_floor hx
  obtain ⟨P, hP⟩ : ∃ P, P = 1586259972793 * xi / 1099511627776 := ⟨_, rfl⟩
  obtain ⟨Q, hQ⟩ : ∃ Q, Q = -(-(1586259972792 * (xi + 1)) / 1099511627776) := ⟨_, rfl⟩
  obtain ⟨v1, h_v1, i_v1⟩ := in_mul P Q c_invln2 ix (by omega) (by omega) (by omega) (by omega) (by omega) (by omega) (by omega) (by omega) (by omega) (by omega)
  obtain ⟨v2, h_v2, i_v2⟩ := in_sub i_v1 c_half (by omega) (by omega)
  obtain ⟨k, h_k, k1, k2, k3⟩ := in_toInt i_v2 (by omega) (by omega)
  obtain ⟨k4, k5, k6⟩ := lin_x xi k P Q hP hQ b1 b2 k1 k2
  have i_t := in_ofInt k (by omega) (by omega)
  obtain ⟨pk, h_pk, i_pk⟩ := in_mul (k * 762123384576) (k * 762123384576) i_t c_ln2hi (by omega) (by omega) (by omega) (by omega) (by omega) (by omega) (by omega) (by omega) (by omega) (by omega)
  obtain ⟨hi, h_hi, i_hi⟩ := in_sub ix i_pk (by omega) (by omega)
  obtain ⟨lo, h_lo, i_lo⟩ := in_mul (k * 210) (k * 209) i_t c_ln2lo (by omega) (by omega) (by omega) (by omega) (by omega) (by omega) (by omega) (by omega) (by omega) (by omega)
  obtain ⟨x', h_x', i_x'⟩ := in_sub i_hi i_lo (by omega) (by omega)
  obtain ⟨c1, h_c1, i_c1⟩ := in_sub i_hi i_x' (by omega) (by omega)
  obtain ⟨c, h_c, i_c⟩ := in_sub i_c1 i_lo (by omega) (by omega)
  exact ⟨⟨v1, v2, k, pk, hi, lo, x', c1, c, h_v1, h_v2, h_k, h_pk, h_hi, h_lo, h_x', h_c1, h_c⟩, k4, k3, i_x'.wide (by omega) (by omega), i_c.wide (by omega) (by omega)⟩

/-- The first branch: k = -1. -/
structure Red1 (x : Nat) where
  hi : Nat
  x' : Nat
  c1 : Nat
  c : Nat
  h_hi : floatBits .add .f64 x 4604418534311723008 = some hi
  h_x' : floatBits .sub .f64 hi 13684814117275778166 = some x'
  h_c1 : floatBits .sub .f64 hi x' = some c1
  h_c : floatBits .sub .f64 c1 13684814117275778166 = some c
theorem reduce1 (x : Nat) (hx : In x (-1143185077179) (-381061692392)) : ∃ p : Red1 x, In p.x' (-412316860416) 412316860416 ∧ In p.c (-30000) 30000 := by
  obtain ⟨xi, ix, b1, b2⟩ := in_floor hx
  obtain ⟨hi, h_hi, i_hi⟩ := in_add ix c_ln2hi (by omega) (by omega)
  obtain ⟨x', h_x', i_x'⟩ := in_sub i_hi c_nln2lo (by omega) (by omega)
  obtain ⟨c1, h_c1, i_c1⟩ := in_sub i_hi i_x' (by omega) (by omega)
  obtain ⟨c, h_c, i_c⟩ := in_sub i_c1 c_nln2lo (by omega) (by omega)
  exact ⟨⟨hi, x', c1, c, h_hi, h_x', h_c1, h_c⟩, i_x'.wide (by omega) (by omega), i_c.wide (by omega) (by omega)⟩

/-- Behind the primary range, k = 0. -/
structure Tail0 (x hxs e : Nat) where
  xe : Nat
  dd : Nat
  r : Nat
  h_xe : floatBits .mul .f64 x e = some xe
  h_dd : floatBits .sub .f64 xe hxs = some dd
  h_r : floatBits .sub .f64 x dd = some r
theorem tail0 (x hxs e : Nat) (hx : In x (-412316860416) 412316860416) (hh : In hxs (-77309411328) 77309411328) (he : In e (-53000000000) 53000000000) : ∃ p : Tail0 x hxs e, Fin p.r := by
  obtain ⟨xe, h_xe, i_xe⟩ := in_mul_abs 20000000000 hx he (by decide) (by decide) (by decide) (by decide)
  obtain ⟨dd, h_dd, i_dd⟩ := in_sub i_xe hh (by decide) (by decide)
  obtain ⟨r, h_r, i_r⟩ := in_sub hx i_dd (by decide) (by decide)
  exact ⟨⟨xe, dd, r, h_xe, h_dd, h_r⟩, i_r.1⟩

/-- Behind the primary range, k other than 0: up to 'e'. -/
structure Tail (x hxs e c : Nat) where
  ec : Nat
  xe : Nat
  e2 : Nat
  e3 : Nat
  h_ec : floatBits .sub .f64 e c = some ec
  h_xe : floatBits .mul .f64 x ec = some xe
  h_e2 : floatBits .sub .f64 xe c = some e2
  h_e3 : floatBits .sub .f64 e2 hxs = some e3
theorem tail (x hxs e c : Nat) (hx : In x (-412316860416) 412316860416) (hh : In hxs (-77309411328) 77309411328) (he : In e (-53000000000) 53000000000) (hc : In c (-30000) 30000) : ∃ p : Tail x hxs e c, In p.e3 (-97400000000) 97400000000 := by
  obtain ⟨ec, h_ec, i_ec⟩ := in_sub he hc (by decide) (by decide)
  obtain ⟨xe, h_xe, i_xe⟩ := in_mul_abs 20000000000 hx (i_ec.wide (c := -53000030000) (d := 53000030000) (by decide) (by decide)) (by decide) (by decide) (by decide) (by decide)
  obtain ⟨e2, h_e2, i_e2⟩ := in_sub i_xe hc (by decide) (by decide)
  obtain ⟨e3, h_e3, i_e3⟩ := in_sub i_e2 hh (by decide) (by decide)
  exact ⟨⟨ec, xe, e2, e3, h_ec, h_xe, h_e2, h_e3⟩, i_e3.wide (by decide) (by decide)⟩
/-- k = -1. -/
structure Tail1 (x e3 : Nat) where
  xm : Nat
  hm : Nat
  r : Nat
  h_xm : floatBits .sub .f64 x e3 = some xm
  h_hm : floatBits .mul .f64 4602678819172646912 xm = some hm
  h_r : floatBits .sub .f64 hm 4602678819172646912 = some r
theorem tail1 (x e3 : Nat) (hx : In x (-412316860416) 412316860416) (he : In e3 (-97400000000) 97400000000) : ∃ p : Tail1 x e3, Fin p.r := by
  obtain ⟨xm, h_xm, i_xm⟩ := in_sub hx he (by decide) (by decide)
  obtain ⟨hm, h_hm, i_hm⟩ := in_mul_abs 300000000000 (c_half.wide (c := -549755813888) (d := 549755813888) (by decide) (by decide)) (i_xm.wide (c := -509716860416) (d := 509716860416) (by decide) (by decide)) (by decide) (by decide) (by decide) (by decide)
  obtain ⟨r, h_r, i_r⟩ := in_sub i_hm c_half (by decide) (by decide)
  exact ⟨⟨xm, hm, r, h_xm, h_hm, h_r⟩, i_r.1⟩
def EA : Nat := 1020
def EB : Nat := 1023
theorem val_a : val (1022 * B - 1) = 9007199254740991 * 2 ^ EA := by
  have d1 : (1022 * B - 1) / B - 1 = EA := by decide
  have d2 : B + (1022 * B - 1) % B = 9007199254740991 := by decide
  unfold val
  rw [if_neg (by decide), d1, d2]
theorem val_b : val (1024 * B) = 4503599627370496 * 2 ^ EB := by
  have d1 : 1024 * B / B - 1 = EB := by decide
  have d2 : B + 1024 * B % B = 4503599627370496 := by decide
  unfold val
  rw [if_neg (by decide), d1, d2]
theorem pow_a : 2 ^ UE = 16384 * 2 ^ EA := by
  rw [show (16384 : Nat) = 2 ^ 14 from rfl, ← Nat.pow_add]; congr 1
theorem pow_b : 2 ^ UE = 2048 * 2 ^ EB := by
  rw [show (2048 : Nat) = 2 ^ 11 from rfl, ← Nat.pow_add]; congr 1
/-- Between a half and two: the rung. -/
theorem rung_near_one {y : Nat} (h : In y 549755813888 2199023255551) : 1022 * B ≤ y ∧ y < 1024 * B := by
  obtain ⟨⟨h1, h2⟩, h3, h4⟩ := h
  have hu : (0 : Int) < ((2 ^ UE : Nat) : Int) := Int.natCast_pos.2 (Nat.two_pow_pos _)
  have hpos : y < 9223372036854775808 := by
    rcases Nat.lt_or_ge y 9223372036854775808 with h | h
    · exact h
    · unfold sg at h3
      rw [if_neg (by omega)] at h3
      have : 0 < 549755813888 * ((2 ^ UE : Nat) : Int) := Int.mul_pos (by decide) hu
      omega
  have hr : rungOf y = y := Nat.mod_eq_of_lt hpos
  unfold sg at h3 h4
  rw [if_pos hpos, hr] at h3 h4
  have l1 : 549755813888 * 2 ^ UE ≤ val y := by
    have : ((549755813888 * 2 ^ UE : Nat) : Int) = 549755813888 * ((2 ^ UE : Nat) : Int) := Int.natCast_mul _ _
    omega
  have l2 : val y ≤ 2199023255551 * 2 ^ UE := by
    have : ((2199023255551 * 2 ^ UE : Nat) : Int) = 2199023255551 * ((2 ^ UE : Nat) : Int) := Int.natCast_mul _ _
    omega
  have hB : B = 4503599627370496 := rfl
  constructor
  · rcases Nat.lt_or_ge y (1022 * B) with h | h
    · exfalso
      have h5 : val y ≤ val (1022 * B - 1) := val_mono (by omega)
      rw [val_a] at h5
      rw [pow_a] at l1
      have hp := Nat.two_pow_pos EA
      generalize 2 ^ EA = p at *
      omega
    · exact h
  · rcases Nat.lt_or_ge y (1024 * B) with h | h
    · exact h
    · exfalso
      have h5 : val (1024 * B) ≤ val y := val_mono h
      rw [val_b] at h5
      rw [pow_b] at l2
      have hp := Nat.two_pow_pos EB
      generalize 2 ^ EB = p at *
      omega

/-- k at most -2. -/
structure Tail2 (x e3 : Nat) (k : Int) where
  ex : Nat
  y : Nat
  y' : Nat
  r : Nat
  h_ex : floatBits .sub .f64 e3 x = some ex
  h_y : floatBits .sub .f64 4607182418800017408 ex = some y
  h_y' : IntKind.u64.wrap ((y : Int) + IntKind.u64.wrap (IntKind.u64.wrap k * 4503599627370496)) = (y' : Int)
  h_r : floatBits .sub .f64 y' 4607182418800017408 = some r
theorem tail2 (x e3 : Nat) (k : Int) (hk1 : -57 ≤ k) (hk2 : k ≤ -2) (hx : In x (-412316860416) 412316860416) (he : In e3 (-97400000000) 97400000000) : ∃ p : Tail2 x e3 k, Fin p.r := by
  obtain ⟨ex, h_ex, i_ex⟩ := in_sub he hx (by decide) (by decide)
  obtain ⟨y, h_y, i_y⟩ := in_sub c_one i_ex (by decide) (by decide)
  obtain ⟨b1, b2⟩ := rung_near_one (i_y.wide (by decide) (by decide))
  have hB : B = 4503599627370496 := rfl
  rw [hB] at b1 b2
  obtain ⟨y', hy'⟩ := Int.eq_ofNat_of_zero_le (show 0 ≤ (y : Int) + k * 4503599627370496 by omega)
  have hlt : y' < 1024 * B := by rw [hB]; omega
  have hlt2 : y' < 9223372036854775808 := by rw [hB] at hlt; omega
  have i_y' : In y' 0 2199023255552 := by
    have hr : rungOf y' = y' := Nat.mod_eq_of_lt hlt2
    refine ⟨⟨by omega, by rw [hr]; rw [hB] at hlt; omega⟩, ?_, ?_⟩
    · unfold sg; rw [if_pos hlt2, Int.zero_mul]; exact Int.natCast_nonneg _
    · unfold sg
      rw [if_pos hlt2, hr]
      have h5 : val y' ≤ val (1024 * B) := val_mono (by omega)
      rw [val_b] at h5
      have e : ((2199023255552 * 2 ^ UE : Nat) : Int) = 2199023255552 * ((2 ^ UE : Nat) : Int) := Int.natCast_mul _ _
      rw [← e, pow_b]
      generalize 2 ^ EB = p at *
      omega
  obtain ⟨r, h_r, i_r⟩ := in_sub i_y' c_one (by decide) (by decide)
  refine ⟨⟨ex, y, y', r, h_ex, h_y, ?_, h_r⟩, i_r.1⟩
  rw [IntKind.wrap_u64, IntKind.wrap_u64, IntKind.wrap_u64]
  omega
end Go.Proofs.Ybulkdpsg

/- FROM A FLOAT TO AN INT; CONSTANTS. -/
import Derived.Test.YbulkdpsgOps
namespace Go.Proofs.Ybulkdpsg
open Go

theorem cut_zero (s : Bool) (n dr : Nat) : Ieee.Toward.zero.cut s n dr = n / 2 ^ dr := by
  unfold Ieee.Toward.cut
  dsimp only
  rw [Nat.one_shiftLeft]
  by_cases hd : dr ≤ n.log2 + 2
  · rw [Nat.min_eq_left hd]; rfl
  · have hm : min dr (n.log2 + 2) = n.log2 + 2 := by omega
    rw [hm]
    have h1 : n < 2 ^ (n.log2 + 1) := Nat.lt_log2_self
    have h2 : 2 ^ (n.log2 + 1) ≤ 2 ^ (n.log2 + 2) := Nat.pow_le_pow_right (by omega) (by omega)
    have h3 : 2 ^ (n.log2 + 1) ≤ 2 ^ dr := Nat.pow_le_pow_right (by omega) (by omega)
    rw [Nat.div_eq_of_lt (by omega), Nat.div_eq_of_lt (by omega)]; rfl

def VV : Nat := 1074
theorem VV_eq : VV = 1074 := rfl
theorem pow_vv : 2 ^ VV = 1099511627776 * 2 ^ UE := by
  rw [show (1099511627776 : Nat) = 2 ^ 40 from rfl, ← Nat.pow_add]; congr 1

theorem floor_val (m : Nat) (e : Int) (he : -1074 ≤ e) : (m <<< e.toNat) / 2 ^ (-e).toNat * 2 ^ VV ≤ m * 2 ^ (e + 1074).toNat ∧ m * 2 ^ (e + 1074).toNat < ((m <<< e.toNat) / 2 ^ (-e).toNat + 1) * 2 ^ VV := by
  rw [Nat.shiftLeft_eq]
  have hv := VV_eq
  rcases Int.lt_or_le e 0 with h | h
  · have e1 : e.toNat = 0 := by omega
    have e2 : 2 ^ VV = 2 ^ (-e).toNat * 2 ^ (e + 1074).toNat := by rw [← Nat.pow_add]; congr 1; omega
    rw [e1, Nat.pow_zero, Nat.mul_one, e2]
    have hp := Nat.two_pow_pos (e + 1074).toNat
    have hq := Nat.two_pow_pos (-e).toNat
    generalize 2 ^ (e + 1074).toNat = p at *
    generalize 2 ^ (-e).toNat = q at *
    constructor
    · rw [← Nat.mul_assoc]; exact Nat.mul_le_mul_right p (Nat.div_mul_le_self m q)
    · rw [← Nat.mul_assoc]
      refine Nat.mul_lt_mul_of_pos_right ?_ hp
      have := Nat.lt_mul_div_succ m hq
      rw [Nat.mul_comm] at this
      exact this
  · have e1 : (-e).toNat = 0 := by omega
    have e2 : 2 ^ (e + 1074).toNat = 2 ^ e.toNat * 2 ^ VV := by rw [← Nat.pow_add]; congr 1; omega
    rw [e1, Nat.pow_zero, Nat.div_one, e2, ← Nat.mul_assoc]
    have hp := Nat.two_pow_pos VV
    exact ⟨Nat.le_refl _, Nat.mul_lt_mul_of_pos_right (by omega) hp⟩

theorem in_toInt {v : Nat} {a b : Int} (hv : In v a b) (ha : -4503599627370496 < a) (hb : b ≤ 0) :
    ∃ k : Int, floatToIntVal .f64 v .i64 = some k ∧ a ≤ k * 1099511627776 ∧ (k - 1) * 1099511627776 < b ∧ k ≤ 0 := by
  obtain ⟨m, e, e1, e2, e3, e4, e5⟩ := read_fin hv.1
  obtain ⟨f1, f2⟩ := floor_val m e e3
  rw [e2] at f1 f2
  have hu0 : (0 : Int) < ((2 ^ UE : Nat) : Int) := Int.natCast_pos.2 (Nat.two_pow_pos _)
  have h1 := hv.2.1; have h2 := hv.2.2
  have hb' : b * ((2 ^ UE : Nat) : Int) ≤ 0 := Int.mul_nonpos_of_nonpos_of_nonneg hb (Int.le_of_lt hu0)
  have hsg : sg v = -(val (rungOf v) : Int) := by
    unfold sg at *
    split at h2
    · rw [if_pos ‹_›]; omega
    · rw [if_neg ‹_›]
  rw [hsg] at h1 h2
  generalize hc : (m <<< e.toNat) / 2 ^ (-e).toNat = c at *
  rw [pow_vv] at f1 f2
  -- the number cut
  have hk : Ieee.Datum.toInt .zero (FloatKind.f64.decode v) = some (-(c : Int)) := by
    show Ieee.Datum.toInt .zero (D.read v) = _
    rw [e1]
    unfold Ieee.Datum.toInt Ieee.Datum.integral
    simp only [cut_zero, hc]
    unfold Ieee.signed
    rw [Nat.shiftLeft_zero]
    by_cases hs : 9223372036854775808 ≤ v
    · rw [if_pos (decide_eq_true hs)]
    · rw [if_neg (by simpa using hs)]
      -- a positive zero
      have hz : val (rungOf v) = 0 := by
        unfold sg at hsg
        rw [if_pos (by omega)] at hsg
        omega
      rw [hz] at f1
      have : c = 0 := by
        rcases Nat.eq_zero_or_pos c with h | h
        · exact h
        · have h3 : 0 < c * (1099511627776 * 2 ^ UE) := Nat.mul_pos h (Nat.mul_pos (by omega) (Nat.two_pow_pos _))
          omega
      rw [this]; rfl
  have g1 : a ≤ -(c : Int) * 1099511627776 := by
    have h3 : ((c * (1099511627776 * 2 ^ UE) : Nat) : Int) = (c : Int) * 1099511627776 * ((2 ^ UE : Nat) : Int) := by rw [Int.natCast_mul, Int.natCast_mul, Int.mul_assoc]; rfl
    have h4 : a * ((2 ^ UE : Nat) : Int) ≤ (-(c : Int) * 1099511627776) * ((2 ^ UE : Nat) : Int) := by
      rw [Int.neg_mul, Int.neg_mul]; omega
    exact Int.le_of_mul_le_mul_right h4 hu0
  have g2 : (-(c : Int) - 1) * 1099511627776 < b := by
    have h3 : (((c + 1) * (1099511627776 * 2 ^ UE) : Nat) : Int) = ((c : Int) + 1) * 1099511627776 * ((2 ^ UE : Nat) : Int) := by rw [Int.natCast_mul, Int.natCast_mul, Int.mul_assoc, Int.natCast_add]; rfl
    have h4 : (-((c : Int) + 1) * 1099511627776) * ((2 ^ UE : Nat) : Int) < b * ((2 ^ UE : Nat) : Int) := by
      rw [Int.neg_mul, Int.neg_mul]; omega
    have := Int.lt_of_mul_lt_mul_right h4 (Int.le_of_lt hu0)
    omega
  refine ⟨-(c : Int), ?_, g1, g2, by omega⟩
  unfold floatToIntVal
  rw [hk]
  simp only
  rw [if_pos]
  show (-9223372036854775808 : Int) ≤ _ ∧ _ ≤ (9223372036854775807 : Int)
  omega

/-- A constant, of whatever sign: its rung's parts. -/
theorem in_const (C q r : Nat) (hC : rungOf C = q * B + r) (hr : r < B) (hq : 1 ≤ q) (hq2 : q ≤ 1035) (a b : Nat) (h1 : a * 2 ^ (1035 - q) ≤ B + r) (h2 : B + r ≤ b * 2 ^ (1035 - q)) (hlt : C < 18446744073709551616) :
    (C < 9223372036854775808 → In C a b) ∧ (9223372036854775808 ≤ C → In C (-(b : Int)) (-(a : Int))) := by
  have hB0 : 0 < B := by decide
  have hd : (q * B + r) / B = q := by rw [Nat.mul_comm, Nat.mul_add_div hB0, Nat.div_eq_of_lt hr, Nat.add_zero]
  have hm : (q * B + r) % B = r := by rw [Nat.mul_comm, Nat.mul_add_mod, Nat.mod_eq_of_lt hr]
  have hge : ¬ q * B + r < B := by
    have : 1 * B ≤ q * B := Nat.mul_le_mul_right B hq
    omega
  have hv : val (rungOf C) = (B + r) * 2 ^ (q - 1) := by
    rw [hC]; unfold val; rw [if_neg hge, hd, hm]
  have hp : 2 ^ UE = 2 ^ (1035 - q) * 2 ^ (q - 1) := by rw [← Nat.pow_add]; congr 1; have := UE_eq; omega
  have l1 : a * 2 ^ UE ≤ val (rungOf C) := by
    rw [hv, hp, ← Nat.mul_assoc]; exact Nat.mul_le_mul_right _ h1
  have l2 : val (rungOf C) ≤ b * 2 ^ UE := by
    rw [hv, hp, ← Nat.mul_assoc]; exact Nat.mul_le_mul_right _ h2
  have hfin : Fin C := by
    refine ⟨hlt, ?_⟩
    rw [hC]
    have h3 : q * B ≤ 1035 * B := Nat.mul_le_mul_right B hq2
    have e : B = 4503599627370496 := rfl
    omega
  have i1 : ((a * 2 ^ UE : Nat) : Int) = (a : Int) * ((2 ^ UE : Nat) : Int) := Int.natCast_mul _ _
  have i2 : ((b * 2 ^ UE : Nat) : Int) = (b : Int) * ((2 ^ UE : Nat) : Int) := Int.natCast_mul _ _
  constructor
  · intro h
    refine ⟨hfin, ?_, ?_⟩ <;> unfold sg <;> rw [if_pos h] <;> omega
  · intro h
    refine ⟨hfin, ?_, ?_⟩ <;> unfold sg <;> rw [if_neg (by omega), Int.neg_mul] <;> omega

/-! ### The constants of math.expm1 -/
theorem c_invln2 : In 4609176140021203710 1586259972792 1586259972793 := (in_const 4609176140021203710 1023 1993721221186302 (by decide) (by decide) (by decide) (by decide) 1586259972792 1586259972793 (by decide) (by decide) (by decide)).1 (by decide)
theorem c_half : In 4602678819172646912 549755813888 549755813888 := (in_const 4602678819172646912 1022 0 (by decide) (by decide) (by decide) (by decide) 549755813888 549755813888 (by decide) (by decide) (by decide)).1 (by decide)
theorem c_ln2hi : In 4604418534311723008 762123384576 762123384576 := (in_const 4604418534311723008 1022 1739715139076096 (by decide) (by decide) (by decide) (by decide) 762123384576 762123384576 (by decide) (by decide) (by decide)).1 (by decide)
theorem c_ln2lo : In 4461442080421002358 209 210 := (in_const 4461442080421002358 990 2878449324211318 (by decide) (by decide) (by decide) (by decide) 209 210 (by decide) (by decide) (by decide)).1 (by decide)
theorem c_nln2lo : In 13684814117275778166 (-210) (-209) := (in_const 13684814117275778166 990 2878449324211318 (by decide) (by decide) (by decide) (by decide) 209 210 (by decide) (by decide) (by decide)).2 (by decide)
theorem c_one : In 4607182418800017408 1099511627776 1099511627776 := (in_const 4607182418800017408 1023 0 (by decide) (by decide) (by decide) (by decide) 1099511627776 1099511627776 (by decide) (by decide) (by decide)).1 (by decide)
theorem c_three : In 4613937818241073152 3298534883328 3298534883328 := (in_const 4613937818241073152 1024 2251799813685248 (by decide) (by decide) (by decide) (by decide) 3298534883328 3298534883328 (by decide) (by decide) (by decide)).1 (by decide)
theorem c_six : In 4618441417868443648 6597069766656 6597069766656 := (in_const 4618441417868443648 1025 2251799813685248 (by decide) (by decide) (by decide) (by decide) 6597069766656 6597069766656 (by decide) (by decide) (by decide)).1 (by decide)
theorem c_q1 : In 13808336697493098740 (-36650387593) (-36650387592) := (in_const 13808336697493098740 1018 300239975158004 (by decide) (by decide) (by decide) (by decide) 36650387592 36650387593 (by decide) (by decide) (by decide)).2 (by decide)
theorem c_q2 : In 4564962959435912581 1745256551 1745256552 := (in_const 4564962959435912581 1013 2816536909600133 (by decide) (by decide) (by decide) (by decide) 1745256551 1745256552 (by decide) (by decide) (by decide)).1 (by decide)
theorem c_q3 : In 13768856570209950647 (-87262824) (-87262823) := (in_const 13768856570209950647 1009 1352509338344375 (by decide) (by decide) (by decide) (by decide) 87262823 87262824 (by decide) (by decide) (by decide)).2 (by decide)
theorem c_q4 : In 4526346094260933177 4407082 4407083 := (in_const 4526346094260933177 1005 228468753584697 (by decide) (by decide) (by decide) (by decide) 4407082 4407083 (by decide) (by decide) (by decide)).1 (by decide)
theorem c_q5 : In 13730065378259354413 (-221111) (-221110) := (in_const 13730065378259354413 1000 3093714034082605 (by decide) (by decide) (by decide) (by decide) 221110 221111 (by decide) (by decide) (by decide)).2 (by decide)
theorem c_x56 : In 4630659717731644081 42678909548005 42678909548006 := (in_const 4630659717731644081 1028 959300794774193 (by decide) (by decide) (by decide) (by decide) 42678909548005 42678909548006 (by decide) (by decide) (by decide)).1 (by decide)
theorem c_ln2half : In 4599914934686071279 381061692392 381061692393 := (in_const 4599914934686071279 1021 1739715140794863 (by decide) (by decide) (by decide) (by decide) 381061692392 381061692393 (by decide) (by decide) (by decide)).1 (by decide)
theorem c_ln2halfx3 : In 4607361305248770931 1143185077178 1143185077179 := (in_const 4607361305248770931 1023 178886448753523 (by decide) (by decide) (by decide) (by decide) 1143185077178 1143185077179 (by decide) (by decide) (by decide)).1 (by decide)
end Go.Proofs.Ybulkdpsg

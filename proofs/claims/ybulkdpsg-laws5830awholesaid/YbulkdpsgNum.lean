/- THE VALUES OF FINITE FLOATS, AND WHAT ROUNDING CAN DO TO THEM: plain mathematics over the library's Ieee. Units: 2 ^ -1074. -/
import Derived.Test.YbulkdpsgFloat
namespace Go.Proofs.Ybulkdpsg
open Go

/-- Rungs to a binade. -/
def B : Nat := 4503599627370496
/-- The value of a rung. -/
def val (R : Nat) : Nat := if R < B then R else (B + R % B) * 2 ^ (R / B - 1)

/-! ### Rounding to the nearest whole number -/
theorem cut_le (neg : Bool) (A dr c : Nat) (h : A ≤ c * 2 ^ dr) : Ieee.Toward.even.cut neg A dr ≤ c := by
  unfold Ieee.Toward.cut
  dsimp only
  by_cases hd : dr ≤ A.log2 + 2
  · rw [Nat.min_eq_left hd, Nat.one_shiftLeft]
    generalize hg : 2 ^ dr = g at *
    have hg0 : 0 < g := by rw [← hg]; exact Nat.two_pow_pos _
    have hdm := Nat.div_add_mod A g
    have hml := Nat.mod_lt A hg0
    rcases Nat.lt_or_ge (A / g) c with h1 | h1
    · have : (decide (g < 2 * (A % g)) || (g == 2 * (A % g) && A / g % 2 == 1)).toNat ≤ 1 := Bool.toNat_le _
      omega
    · have h2 : g * c ≤ g * (A / g) := Nat.mul_le_mul_left g h1
      have h3 : A % g = 0 := by rw [Nat.mul_comm c g] at h; omega
      have h4 : A / g = c := by
        have : g * (A / g) ≤ g * c := by rw [Nat.mul_comm c g] at h; omega
        exact Nat.le_antisymm (Nat.le_of_mul_le_mul_left this hg0) h1
      rw [h3, h4]
      have e1 : (decide (g < 2 * 0) || (g == 2 * 0 && c % 2 == 1)) = false := by
        have a1 : ¬ g < 2 * 0 := by omega
        have a2 : (g == 2 * 0) = false := by simp; omega
        rw [decide_eq_false a1, a2]; rfl
      show c + (decide (g < 2 * 0) || (g == 2 * 0 && c % 2 == 1)).toNat ≤ c
      rw [e1]
      exact Nat.le_refl _
  · have hm : min dr (A.log2 + 2) = A.log2 + 2 := by omega
    rw [hm, Nat.one_shiftLeft]
    have hlt : 2 * A < 2 ^ (A.log2 + 2) := by
      rcases Nat.eq_zero_or_pos A with h0 | h0
      · subst h0; simp
      · have := Nat.lt_log2_self (n := A)
        rw [Nat.pow_succ, Nat.pow_succ]
        rw [Nat.pow_succ] at this
        omega
    generalize 2 ^ (A.log2 + 2) = g at *
    have e1 : A / g = 0 := Nat.div_eq_of_lt (by omega)
    have e2 : A % g = A := Nat.mod_eq_of_lt (by omega)
    rw [e1, e2]
    have : ¬ g < 2 * A := by omega
    have h5 : (g == 2 * A) = false := by simp; omega
    simp [this]
theorem le_cut (neg : Bool) (A dr c : Nat) (h : c * 2 ^ dr ≤ A) : c ≤ Ieee.Toward.even.cut neg A dr := by
  unfold Ieee.Toward.cut
  dsimp only
  by_cases hd : dr ≤ A.log2 + 2
  · rw [Nat.min_eq_left hd, Nat.one_shiftLeft]
    have : c ≤ A / 2 ^ dr := (Nat.le_div_iff_mul_le (Nat.two_pow_pos _)).2 h
    omega
  · rcases Nat.eq_zero_or_pos c with h0 | h0
    · rw [h0]; exact Nat.zero_le _
    · exfalso
      have h1 : 2 ^ dr ≤ A := Nat.le_trans (Nat.le_mul_of_pos_left _ h0) h
      have h2 : A < 2 ^ (A.log2 + 1) := Nat.lt_log2_self
      have h3 : 2 ^ (A.log2 + 1) ≤ 2 ^ dr := Nat.pow_le_pow_right (by omega) (by omega)
      omega

/-! ### The rung that a number is rounded to -/
/-- The rung's parts. -/
def lastOf (mag : Nat) (place : Int) : Int := max (place + mag.log2 - 52) (-1074)
def rnear (neg : Bool) (mag : Nat) (place : Int) : Nat :=
  if mag = 0 then 0 else min ((lastOf mag place + 1074).toNat * B + Ieee.Toward.even.cut neg (mag <<< (place - lastOf mag place).toNat) (lastOf mag place - place).toNat) 9218868437227405312
theorem least_eq : D.leastPlace = -1074 := rfl
theorem nearest_eq (neg : Bool) (mag : Nat) (place : Int) : D.nearest neg mag place = D.word neg (rnear neg mag place) := by
  unfold Ieee.Format.nearest rnear
  split
  · rfl
  · dsimp only
    rw [least_eq]
    rfl

/-- How far the products' units lie below. -/
def SH : Nat := 1126
theorem SH_eq : SH = 1126 := rfl
theorem near_parts (mag : Nat) (place : Int) (hm : 0 < mag) (hp : -2200 ≤ place) (A dr p : Nat) (eA : A = mag <<< (place - lastOf mag place).toNat) (edr : dr = (lastOf mag place - place).toNat) (ep : p = (lastOf mag place + 1074).toNat) :
    mag * 2 ^ (place + 2200).toNat * 2 ^ dr = A * 2 ^ (p + SH) ∧ A < 2 ^ 53 * 2 ^ dr ∧ (0 < p → 2 ^ 52 * 2 ^ dr ≤ A) := by
  have hA : A = mag * 2 ^ (place - lastOf mag place).toNat := by rw [eA]; exact Nat.shiftLeft_eq _ _
  have hl : -1074 ≤ lastOf mag place := Int.le_max_right _ _
  have hl2 : place + mag.log2 - 52 ≤ lastOf mag place := Int.le_max_left _ _
  have hl3 : lastOf mag place = place + mag.log2 - 52 ∨ lastOf mag place = -1074 := by unfold lastOf; omega
  have h1 : 2 ^ mag.log2 ≤ mag := Nat.log2_self_le (by omega)
  have h2 : mag < 2 ^ (mag.log2 + 1) := Nat.lt_log2_self
  have hsh := SH_eq
  clear eA
  generalize lastOf mag place = L at *
  generalize SH = sh at *
  refine ⟨?_, ?_, ?_⟩
  · have e : (place + 2200).toNat + dr = (place - L).toNat + (p + sh) := by omega
    rw [hA, Nat.mul_assoc, Nat.mul_assoc, ← Nat.pow_add, ← Nat.pow_add, e]
  · rw [hA, ← Nat.pow_add]
    have e : mag.log2 + 1 + (place - L).toNat ≤ 53 + dr := by omega
    calc mag * 2 ^ (place - L).toNat < 2 ^ (mag.log2 + 1) * 2 ^ (place - L).toNat := Nat.mul_lt_mul_of_pos_right h2 (Nat.two_pow_pos _)
      _ = 2 ^ (mag.log2 + 1 + (place - L).toNat) := (Nat.pow_add _ _ _).symm
      _ ≤ 2 ^ (53 + dr) := Nat.pow_le_pow_right (by omega) e
  · intro hp0
    rw [hA, ← Nat.pow_add]
    have e : 52 + dr = mag.log2 + (place - L).toNat := by omega
    rw [e, Nat.pow_add]
    exact Nat.mul_le_mul_right _ h1

theorem B_eq : B = 2 ^ 52 := rfl
/-- THE BRACKET, from above. -/
theorem near_le (neg : Bool) (mag : Nat) (place : Int) (hp : -2200 ≤ place) (U : Nat) (h : mag * 2 ^ (place + 2200).toNat ≤ val U * 2 ^ SH) : rnear neg mag place ≤ U := by
  unfold rnear
  split
  · exact Nat.zero_le _
  · rename_i hm
    obtain ⟨f1, f2, f3⟩ := near_parts mag place (by omega) hp _ _ _ rfl rfl rfl
    generalize mag <<< (place - lastOf mag place).toNat = A at *
    generalize (lastOf mag place - place).toNat = dr at *
    generalize (lastOf mag place + 1074).toNat = p at *
    have hg : 0 < 2 ^ dr := Nat.two_pow_pos _
    have key : A * 2 ^ p ≤ val U * 2 ^ dr := by
      have h1 := Nat.mul_le_mul_right (2 ^ dr) h
      rw [f1, Nat.pow_add, ← Nat.mul_assoc, Nat.mul_right_comm (val U)] at h1
      exact Nat.le_of_mul_le_mul_right h1 (Nat.two_pow_pos _)
    refine Nat.le_trans (Nat.min_le_left _ _) ?_
    unfold val at key
    by_cases hU : U < B
    · rw [if_pos hU] at key
      rcases Nat.eq_zero_or_pos p with h0 | h0
      · subst h0
        rw [Nat.pow_zero, Nat.mul_one] at key
        have := cut_le neg A dr U key
        omega
      · exfalso
        have h1 := f3 h0
        have h2 : 2 ^ 1 ≤ 2 ^ p := Nat.pow_le_pow_right (by omega) h0
        have h3 : 2 ^ 52 * 2 ^ dr * 2 ^ 1 ≤ A * 2 ^ p := Nat.mul_le_mul h1 h2
        have h4 : U * 2 ^ dr < B * 2 ^ dr := Nat.mul_lt_mul_of_pos_right hU hg
        rw [B_eq] at h4
        omega
    · rw [if_neg hU] at key
      have hq : 1 ≤ U / B := (Nat.one_le_div_iff (by decide)).2 (by omega)
      have hr : U % B < B := Nat.mod_lt _ (by decide)
      have hU' : B * (U / B) + U % B = U := Nat.div_add_mod U B
      generalize U / B = q at *
      generalize U % B = r at *
      rcases Nat.lt_trichotomy p (q - 1) with hpq | hpq | hpq
      · have h1 : Ieee.Toward.even.cut neg A dr ≤ 2 ^ 53 := cut_le neg A dr (2 ^ 53) (Nat.le_of_lt f2)
        have h2 : p * B + 2 * B ≤ q * B := by
          rw [← Nat.add_mul]; exact Nat.mul_le_mul_right B (by omega)
        have h3 : (2 : Nat) ^ 53 = 2 * B := rfl
        rw [Nat.mul_comm B q] at hU'
        omega
      · subst hpq
        have h1 : A ≤ (B + r) * 2 ^ dr := by
          rw [Nat.mul_right_comm] at key
          exact Nat.le_of_mul_le_mul_right key (Nat.two_pow_pos _)
        have h2 := cut_le neg A dr (B + r) h1
        have h3 : (q - 1) * B + B = B * q := by
          rw [Nat.mul_comm B q, ← Nat.succ_mul]; congr 1; omega
        omega
      · exfalso
        have h1 := f3 (by omega)
        have h2 : 2 ^ (q - 1) * 2 ≤ 2 ^ p := by rw [← Nat.pow_succ]; exact Nat.pow_le_pow_right (by omega) (by omega)
        have h3 : 2 ^ 52 * 2 ^ dr * (2 ^ (q - 1) * 2) ≤ A * 2 ^ p := Nat.mul_le_mul h1 h2
        have h4 : (B + r) * 2 ^ (q - 1) * 2 ^ dr < (2 * B) * 2 ^ (q - 1) * 2 ^ dr := Nat.mul_lt_mul_of_pos_right (Nat.mul_lt_mul_of_pos_right (by omega) (Nat.two_pow_pos _)) hg
        have h5 : 2 ^ 52 * 2 ^ dr * (2 ^ (q - 1) * 2) = (2 * B) * 2 ^ (q - 1) * 2 ^ dr := by
          rw [← B_eq, Nat.mul_comm (2 ^ (q - 1)) 2, Nat.mul_comm B (2 ^ dr), Nat.mul_assoc, ← Nat.mul_assoc B, Nat.mul_comm B 2, Nat.mul_comm]
        omega
/-- .. and from below. -/
theorem le_near (neg : Bool) (mag : Nat) (place : Int) (hp : -2200 ≤ place) (L : Nat) (hL : L ≤ 9218868437227405312) (h : val L * 2 ^ SH ≤ mag * 2 ^ (place + 2200).toNat) : L ≤ rnear neg mag place := by
  unfold rnear
  split
  · rename_i hm
    subst hm
    rw [Nat.zero_mul] at h
    have hv : val L = 0 := by
      rcases Nat.eq_zero_or_pos (val L) with h0 | h0
      · exact h0
      · have := Nat.mul_pos h0 (Nat.two_pow_pos SH); omega
    unfold val at hv
    split at hv
    · omega
    · have : 0 < (B + L % B) * 2 ^ (L / B - 1) := Nat.mul_pos (Nat.lt_of_lt_of_le (by decide) (Nat.le_add_right B _)) (Nat.two_pow_pos _)
      omega
  · rename_i hm
    obtain ⟨f1, f2, f3⟩ := near_parts mag place (by omega) hp _ _ _ rfl rfl rfl
    generalize mag <<< (place - lastOf mag place).toNat = A at *
    generalize (lastOf mag place - place).toNat = dr at *
    generalize (lastOf mag place + 1074).toNat = p at *
    have hg : 0 < 2 ^ dr := Nat.two_pow_pos _
    have key : val L * 2 ^ dr ≤ A * 2 ^ p := by
      have h1 := Nat.mul_le_mul_right (2 ^ dr) h
      rw [f1, Nat.pow_add, ← Nat.mul_assoc, Nat.mul_right_comm (val L)] at h1
      exact Nat.le_of_mul_le_mul_right h1 (Nat.two_pow_pos _)
    refine Nat.le_min.2 ⟨?_, hL⟩
    unfold val at key
    by_cases hU : L < B
    · rw [if_pos hU] at key
      rcases Nat.eq_zero_or_pos p with h0 | h0
      · subst h0
        rw [Nat.pow_zero, Nat.mul_one] at key
        have := le_cut neg A dr L key
        omega
      · have : 1 * B ≤ p * B := Nat.mul_le_mul_right B h0
        omega
    · rw [if_neg hU] at key
      have hq : 1 ≤ L / B := (Nat.one_le_div_iff (by decide)).2 (by omega)
      have hr : L % B < B := Nat.mod_lt _ (by decide)
      have hU' : B * (L / B) + L % B = L := Nat.div_add_mod L B
      generalize L / B = q at *
      generalize L % B = r at *
      rcases Nat.lt_trichotomy p (q - 1) with hpq | hpq | hpq
      · exfalso
        have h2 : 2 ^ p * 2 ≤ 2 ^ (q - 1) := by rw [← Nat.pow_succ]; exact Nat.pow_le_pow_right (by omega) (by omega)
        have h3 : B * (2 ^ p * 2) ≤ (B + r) * 2 ^ (q - 1) := Nat.mul_le_mul (by omega) h2
        have h4 : B * (2 ^ p * 2) * 2 ^ dr ≤ (B + r) * 2 ^ (q - 1) * 2 ^ dr := Nat.mul_le_mul_right _ h3
        have h5 : A * 2 ^ p < 2 ^ 53 * 2 ^ dr * 2 ^ p := Nat.mul_lt_mul_of_pos_right f2 (Nat.two_pow_pos _)
        have h6 : B * (2 ^ p * 2) * 2 ^ dr = 2 ^ 53 * 2 ^ dr * 2 ^ p := by
          have e : (2 : Nat) ^ 53 = B * 2 := rfl
          rw [e, Nat.mul_comm (2 ^ p) 2, ← Nat.mul_assoc, Nat.mul_right_comm]
        omega
      · subst hpq
        have h1 : (B + r) * 2 ^ dr ≤ A := by
          rw [Nat.mul_right_comm] at key
          exact Nat.le_of_mul_le_mul_right key (Nat.two_pow_pos _)
        have h2 := le_cut neg A dr (B + r) h1
        have h3 : (q - 1) * B + B = B * q := by
          rw [Nat.mul_comm B q, ← Nat.succ_mul]; congr 1; omega
        omega
      · have h1 := le_cut neg A dr (2 ^ 52) (f3 (by omega))
        rw [← B_eq] at h1
        have h2 : q * B ≤ p * B := Nat.mul_le_mul_right B (by omega)
        rw [Nat.mul_comm B q] at hU'
        omega
end Go.Proofs.Ybulkdpsg

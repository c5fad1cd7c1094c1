/- INTERVALS OF FINITE FLOATS: bounds are whole multiples of 2 ^ -40. -/
import Derived.Test.YbulkdpsgNum
namespace Go.Proofs.Ybulkdpsg
open Go

theorem val_succ (R : Nat) : val R ≤ val (R + 1) := by
  unfold val
  have hB : 0 < B := by decide
  by_cases h1 : R + 1 < B
  · rw [if_pos (by omega), if_pos h1]; omega
  · rw [if_neg h1]
    by_cases h2 : R < B
    · rw [if_pos h2]
      have : R + 1 = B := by omega
      rw [this, Nat.mod_self, Nat.div_self hB]
      simp; omega
    · rw [if_neg h2]
      have hq : 1 ≤ R / B := (Nat.one_le_div_iff hB).2 (by omega)
      have hr := Nat.mod_lt R hB
      by_cases h3 : R % B + 1 < B
      · have e1 : (R + 1) / B = R / B := by
          rw [Nat.div_eq_iff hB]
          have := Nat.div_add_mod R B
          constructor
          · rw [Nat.mul_comm]; omega
          · rw [Nat.mul_comm]; omega
        have e2 : (R + 1) % B = R % B + 1 := by
          have h4 := Nat.div_add_mod (R + 1) B
          have h5 := Nat.div_add_mod R B
          rw [e1] at h4; omega
        rw [e1, e2]
        exact Nat.mul_le_mul_right _ (by omega)
      · have h5 := Nat.div_add_mod R B
        have e1 : (R + 1) / B = R / B + 1 := by
          have e : R + 1 = B * (R / B + 1) := by rw [Nat.mul_add, Nat.mul_one]; omega
          rw [e, Nat.mul_div_cancel_left _ hB]
        have e2 : (R + 1) % B = 0 := by
          have e : R + 1 = B * (R / B + 1) := by rw [Nat.mul_add, Nat.mul_one]; omega
          rw [e]; exact Nat.mul_mod_right _ _
        rw [e1, e2]
        obtain ⟨k, hk⟩ : ∃ k, R / B = k + 1 := ⟨R / B - 1, by omega⟩
        rw [hk]
        simp only [Nat.add_sub_cancel, Nat.add_zero]
        rw [Nat.pow_succ, ← Nat.mul_assoc, Nat.mul_right_comm]
        exact Nat.mul_le_mul_right _ (by omega)
theorem val_mono {R S : Nat} (h : R ≤ S) : val R ≤ val S := by
  obtain ⟨d, rfl⟩ := Nat.exists_eq_add_of_le h
  induction d with
  | zero => exact Nat.le_refl _
  | succ d ih => exact Nat.le_trans (ih (by omega)) (val_succ _)

/-- The unit of the bounds: 2 ^ -40. -/
def UE : Nat := 1034
theorem UE_eq : UE = 1034 := rfl
/-- Whole multiples of the unit are floats. -/
theorem repr (k : Nat) (h : k < 9007199254740992) : ∃ R, R < 9218868437227405312 ∧ val R = k * 2 ^ UE := by
  rcases Nat.eq_zero_or_pos k with h0 | h0
  · subst h0; exact ⟨0, by omega, by rw [Nat.zero_mul]; rfl⟩
  · have hlog : k.log2 ≤ 52 := by
      have h1 : 2 ^ k.log2 ≤ k := Nat.log2_self_le (by omega)
      rcases Nat.lt_or_ge 52 k.log2 with h2 | h2
      · have : 2 ^ 53 ≤ 2 ^ k.log2 := Nat.pow_le_pow_right (by omega) h2
        omega
      · exact h2
    have h1 : 2 ^ k.log2 ≤ k := Nat.log2_self_le (by omega)
    have h2 : k < 2 ^ (k.log2 + 1) := Nat.lt_log2_self
    have hlo : B ≤ k * 2 ^ (52 - k.log2) := by
      have := Nat.mul_le_mul_right (2 ^ (52 - k.log2)) h1
      rw [← Nat.pow_add, show k.log2 + (52 - k.log2) = 52 by omega] at this
      exact this
    have hhi : k * 2 ^ (52 - k.log2) < 2 * B := by
      have := Nat.mul_lt_mul_of_pos_right h2 (Nat.two_pow_pos (52 - k.log2))
      rw [← Nat.pow_add, show k.log2 + 1 + (52 - k.log2) = 53 by omega] at this
      exact this
    have hue := UE_eq
    generalize UE = E at *
    generalize hm : k * 2 ^ (52 - k.log2) = m at *
    refine ⟨(E - (52 - k.log2) + 1) * B + (m - B), ?_, ?_⟩
    · have : (E - (52 - k.log2) + 1) * B ≤ 1035 * B := Nat.mul_le_mul_right B (by omega)
      have e : B = 4503599627370496 := rfl
      omega
    · have hd : ((E - (52 - k.log2) + 1) * B + (m - B)) / B = E - (52 - k.log2) + 1 := by
        rw [Nat.mul_comm, Nat.mul_add_div (by decide), Nat.div_eq_of_lt (by omega), Nat.add_zero]
      have hr : ((E - (52 - k.log2) + 1) * B + (m - B)) % B = m - B := by
        rw [Nat.mul_comm, Nat.mul_add_mod, Nat.mod_eq_of_lt (by omega)]
      unfold val
      rw [if_neg (by have : 1 * B ≤ (E - (52 - k.log2) + 1) * B := Nat.mul_le_mul_right B (by omega)
                     omega), hd, hr]
      have e1 : B + (m - B) = m := by omega
      have e2 : 52 - k.log2 + (E - (52 - k.log2)) = E := by omega
      rw [e1, Nat.add_sub_cancel, ← hm, Nat.mul_assoc, ← Nat.pow_add, e2]

/-- A finite float's word. -/
def Fin (x : Nat) : Prop := x < 18446744073709551616 ∧ rungOf x < 9218868437227405312
/-- Its value. -/
def sg (x : Nat) : Int := if x < 9223372036854775808 then (val (rungOf x) : Int) else -(val (rungOf x) : Int)
/-- What a datum is worth, in units of 2 ^ -2200. -/
def sc (s : Bool) (m : Nat) (e : Int) : Int := if s then -((m * 2 ^ (e + 2200).toNat : Nat) : Int) else ((m * 2 ^ (e + 2200).toNat : Nat) : Int)

theorem read_fin {x : Nat} (h : Fin x) : ∃ m e, D.read x = .number (decide (9223372036854775808 ≤ x)) m e ∧ m * 2 ^ (e + 1074).toNat = val (rungOf x) ∧ -1074 ≤ e ∧ e ≤ 971 ∧ m < 2 ^ 53 := by
  obtain ⟨h1, h2⟩ := h
  have hs : (x / D.signWeight % 2 == 1) = decide (9223372036854775808 ≤ x) := by
    rw [sw]
    by_cases hx : 9223372036854775808 ≤ x
    · rw [decide_eq_true hx]; simp; omega
    · rw [decide_eq_false hx]; simp; omega
  have hBe : B = 4503599627370496 := rfl
  unfold Ieee.Format.read
  dsimp only
  rw [hs, sw, bn, ir, least_eq, ← hBe]
  unfold rungOf at *
  generalize x % 9223372036854775808 = R at *
  have hB0 : 0 < B := by decide
  by_cases hb : R < B
  · rw [if_pos hb]
    refine ⟨_, _, rfl, ?_, by omega, by omega, by omega⟩
    unfold val
    rw [if_pos hb]
    simp
  · rw [if_neg hb, if_pos h2]
    have hq : 1 ≤ R / B := (Nat.one_le_div_iff hB0).2 (by omega)
    have hq2 : R / B < 2047 := Nat.div_lt_of_lt_mul (by rw [hBe]; omega)
    have hmod := Nat.mod_lt R hB0
    refine ⟨_, _, rfl, ?_, by omega, by omega, by omega⟩
    unfold val
    rw [if_neg hb]
    have e : (-1074 + ((R / B - 1 : Nat) : Int) + 1074).toNat = R / B - 1 := by omega
    rw [e]

/-- The word that is written. -/
theorem word_parts (neg : Bool) (R : Nat) (h : R ≤ 9218868437227405312) : rungOf (D.word neg R) = R ∧ D.word neg R < 18446744073709551616 ∧ (D.word neg R < 9223372036854775808 ↔ neg = false) := by
  unfold Ieee.Format.word rungOf
  rw [sw]
  cases neg
  · simp; omega
  · simp; omega
theorem rnear_le (neg : Bool) (m : Nat) (e : Int) : rnear neg m e ≤ 9218868437227405312 := by
  unfold rnear
  split
  · omega
  · exact Nat.min_le_right _ _
theorem sg_word (neg : Bool) (R : Nat) (h : R ≤ 9218868437227405312) : sg (D.word neg R) = if neg then -(val R : Int) else (val R : Int) := by
  obtain ⟨h1, h2, h3⟩ := word_parts neg R h
  unfold sg
  rw [h1]
  cases neg
  · rw [if_pos (h3.2 rfl)]; rfl
  · rw [if_neg (fun h => by have := h3.1 h; cases this)]; rfl

/-- An interval. -/
def In (x : Nat) (a b : Int) : Prop := Fin x ∧ a * ((2 ^ UE : Nat) : Int) ≤ sg x ∧ sg x ≤ b * ((2 ^ UE : Nat) : Int)

/-- WHAT IS WRITTEN LIES BETWEEN THE BOUNDS THAT THE EXACT RESULT LIES BETWEEN. -/
theorem write_in (s : Bool) (m : Nat) (e : Int) (he : -2200 ≤ e) (a b : Int) (ha : -9007199254740992 < a) (hb : b < 9007199254740992)
    (h1 : a * ((2 ^ UE : Nat) : Int) * ((2 ^ SH : Nat) : Int) ≤ sc s m e) (h2 : sc s m e ≤ b * ((2 ^ UE : Nat) : Int) * ((2 ^ SH : Nat) : Int)) : In (D.nearest s m e) a b := by
  rw [nearest_eq]
  have hR := rnear_le s m e
  obtain ⟨w1, w2, _⟩ := word_parts s (rnear s m e) hR
  have hu : 0 < (2 ^ UE : Nat) := Nat.two_pow_pos _
  have hs : 0 < (2 ^ SH : Nat) := Nat.two_pow_pos _
  unfold In Fin
  rw [sg_word s _ hR, w1]
  -- both signs at once: an upper bound k on the magnitude, a lower bound l
  have up : ∀ k : Nat, k < 9007199254740992 → m * 2 ^ (e + 2200).toNat ≤ k * 2 ^ UE * 2 ^ SH → rnear s m e < 9218868437227405312 ∧ val (rnear s m e) ≤ k * 2 ^ UE := by
    intro k hk h
    obtain ⟨U, hU, hv⟩ := repr k hk
    have := near_le s m e he U (by rw [hv]; exact h)
    exact ⟨by omega, by rw [← hv]; exact val_mono this⟩
  have lo : ∀ k : Nat, k < 9007199254740992 → k * 2 ^ UE * 2 ^ SH ≤ m * 2 ^ (e + 2200).toNat → k * 2 ^ UE ≤ val (rnear s m e) := by
    intro k hk h
    obtain ⟨L, hL, hv⟩ := repr k hk
    have := le_near s m e he L (by omega) (by rw [hv]; exact h)
    rw [← hv]; exact val_mono this
  generalize rnear s m e = R at *
  generalize hM : m * 2 ^ (e + 2200).toNat = M at *
  unfold sc at h1 h2
  rw [hM] at h1 h2
  generalize 2 ^ UE = u at *
  generalize 2 ^ SH = v at *
  cases s
  · simp only [Bool.false_eq_true, if_false] at h1 h2 ⊢
    have hb0 : 0 ≤ b := by
      rcases Int.lt_or_le b 0 with h | h
      · have h3 : b * (u : Int) < 0 := Int.mul_neg_of_neg_of_pos h (by omega)
        have h4 : b * (u : Int) * v < 0 := Int.mul_neg_of_neg_of_pos h3 (by omega)
        omega
      · exact h
    obtain ⟨k, rfl⟩ := Int.eq_ofNat_of_zero_le hb0
    obtain ⟨g1, g2⟩ := up k (by omega) (by
      have : ((k * u * v : Nat) : Int) = (k : Int) * u * v := by simp
      omega)
    have g2' : (val R : Int) ≤ (k : Int) * u := by
      have : ((k * u : Nat) : Int) = (k : Int) * u := by simp
      omega
    refine ⟨⟨w2, g1⟩, ?_, g2'⟩
    rcases Int.lt_or_le a 0 with h | h
    · have h3 : a * (u : Int) < 0 := Int.mul_neg_of_neg_of_pos h (by omega)
      omega
    · obtain ⟨l, rfl⟩ := Int.eq_ofNat_of_zero_le h
      have hl : l < 9007199254740992 := by
        rcases Nat.lt_or_ge l 9007199254740992 with h5 | h5
        · exact h5
        · have h6 : k * u * v < l * u * v := Nat.mul_lt_mul_of_pos_right (Nat.mul_lt_mul_of_pos_right (by omega) hu) hs
          have e1 : ((k * u * v : Nat) : Int) = (k : Int) * u * v := by simp
          have e2 : ((l * u * v : Nat) : Int) = (l : Int) * u * v := by simp
          omega
      have := lo l hl (by
        have e2 : ((l * u * v : Nat) : Int) = (l : Int) * u * v := by simp
        omega)
      have e3 : ((l * u : Nat) : Int) = (l : Int) * u := by simp
      omega
  · simp only [if_true] at h1 h2 ⊢
    have ha0 : a ≤ 0 := by
      rcases Int.lt_or_le 0 a with h | h
      · have h3 : 0 < a * (u : Int) := Int.mul_pos h (by omega)
        have h4 : 0 < a * (u : Int) * v := Int.mul_pos h3 (by omega)
        omega
      · exact h
    obtain ⟨k, hk⟩ := Int.eq_ofNat_of_zero_le (show 0 ≤ -a by omega)
    obtain rfl : a = -(k : Int) := by omega
    have e1 : ((k * u * v : Nat) : Int) = (k : Int) * u * v := by simp
    have e2 : ((k * u : Nat) : Int) = (k : Int) * u := by simp
    rw [Int.neg_mul, Int.neg_mul] at h1
    rw [Int.neg_mul]
    obtain ⟨g1, g2⟩ := up k (by omega) (by omega)
    refine ⟨⟨w2, g1⟩, by omega, ?_⟩
    rcases Int.lt_or_le 0 b with h | h
    · have h3 : 0 < b * (u : Int) := Int.mul_pos h (by omega)
      omega
    · obtain ⟨l, hl⟩ := Int.eq_ofNat_of_zero_le (show 0 ≤ -b by omega)
      obtain rfl : b = -(l : Int) := by omega
      have f1 : ((l * u * v : Nat) : Int) = (l : Int) * u * v := by simp
      have f2 : ((l * u : Nat) : Int) = (l : Int) * u := by simp
      rw [Int.neg_mul, Int.neg_mul] at h2
      rw [Int.neg_mul]
      have hl' : l < 9007199254740992 := by
        rcases Nat.lt_or_ge l 9007199254740992 with h5 | h5
        · exact h5
        · have h6 : k * u * v < l * u * v := Nat.mul_lt_mul_of_pos_right (Nat.mul_lt_mul_of_pos_right (by omega) hu) hs
          omega
      have := lo l hl' (by omega)
      omega
end Go.Proofs.Ybulkdpsg

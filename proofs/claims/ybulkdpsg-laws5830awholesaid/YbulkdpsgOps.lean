/- THE FOUR OPERATIONS, COMPARISONS AND CONVERSIONS ON INTERVALS. -/
import Derived.Test.YbulkdpsgIv
namespace Go.Proofs.Ybulkdpsg
open Go

theorem pow_split (e : Int) (he : -1074 ≤ e) : 2 ^ (e + 2200).toNat = 2 ^ (e + 1074).toNat * 2 ^ SH := by
  rw [← Nat.pow_add]
  congr 1
  have := SH_eq
  omega
/-- A finite float, read: what it is worth. -/
theorem read_sc {x : Nat} (h : Fin x) : ∃ s m e, D.read x = .number s m e ∧ sc s m e = sg x * ((2 ^ SH : Nat) : Int) ∧ -1074 ≤ e ∧ e ≤ 971 ∧ m < 2 ^ 53 ∧ m * 2 ^ (e + 1074).toNat = val (rungOf x) := by
  obtain ⟨m, e, h1, h2, h3, h4, h5⟩ := read_fin h
  refine ⟨_, m, e, h1, ?_, h3, h4, h5, h2⟩
  unfold sc sg
  rw [pow_split e h3, ← Nat.mul_assoc, h2]
  by_cases hx : 9223372036854775808 ≤ x
  · rw [if_pos (decide_eq_true hx), if_neg (by omega), Int.neg_mul, Int.natCast_mul]
  · rw [if_neg (by simpa using hx), if_pos (by omega), Int.natCast_mul]

theorem signed_sc (s : Bool) (m : Nat) (i base : Int) (hb : base ≤ i) (h : -2200 ≤ base) : Ieee.signed s m (i - base).toNat * ((2 ^ (base + 2200).toNat : Nat) : Int) = sc s m i := by
  have e : m <<< (i - base).toNat * 2 ^ (base + 2200).toNat = m * 2 ^ (i + 2200).toNat := by
    rw [Nat.shiftLeft_eq, Nat.mul_assoc, ← Nat.pow_add]
    congr 2
    omega
  unfold Ieee.signed sc
  cases s
  · simp only [Bool.false_eq_true, if_false]
    rw [← Int.natCast_mul, e]
  · simp only [if_true]
    rw [Int.neg_mul, ← Int.natCast_mul, e]
theorem sum_sc (s t : Bool) (m n : Nat) (i j : Int) (hi : -2200 ≤ i) (hj : -2200 ≤ j) :
    ∃ g k base, (Ieee.Datum.number s m i).sum (.number t n j) = some (.number g k base) ∧ sc g k base = sc s m i + sc t n j ∧ -2200 ≤ base := by
  have h1 := signed_sc s m i (min i j) (by omega) (by omega)
  have h2 := signed_sc t n j (min i j) (by omega) (by omega)
  refine ⟨_, _, _, rfl, ?_, by omega⟩
  rw [← h1, ← h2, ← Int.add_mul]
  generalize Ieee.signed s m (i - min i j).toNat + Ieee.signed t n (j - min i j).toNat = tot
  unfold sc
  by_cases h0 : tot = 0
  · subst h0
    simp
  · rw [if_neg h0]
    by_cases hn : tot < 0
    · rw [if_pos (decide_eq_true hn), Int.natCast_mul]
      rw [← Int.neg_mul]
      congr 1
      omega
    · rw [if_neg (by simpa using hn), Int.natCast_mul]
      congr 1
      omega

theorem sc_opp (s : Bool) (m : Nat) (e : Int) : sc (!s) m e = -sc s m e := by
  unfold sc
  cases s <;> simp

theorem in_add {x y : Nat} {a b c d : Int} (hx : In x a b) (hy : In y c d) (h1 : -9007199254740992 < a + c) (h2 : b + d < 9007199254740992) :
    ∃ r, floatBits .add .f64 x y = some r ∧ In r (a + c) (b + d) := by
  obtain ⟨s, m, i, e1, e2, e3, _⟩ := read_sc hx.1
  obtain ⟨t, n, j, f1, f2, f3, _⟩ := read_sc hy.1
  obtain ⟨g, k, base, g1, g2, g3⟩ := sum_sc s t m n i j (by omega) (by omega)
  refine ⟨D.nearest g k base, ?_, write_in g k base g3 _ _ h1 h2 ?_ ?_⟩
  · show ((D.read x).sum (D.read y)).map D.write = _
    rw [e1, f1, g1]; rfl
  · rw [g2, e2, f2, ← Int.add_mul]
    refine Int.mul_le_mul_of_nonneg_right ?_ (Int.natCast_nonneg _)
    rw [Int.add_mul]
    have := hx.2.1; have := hy.2.1
    omega
  · rw [g2, e2, f2, ← Int.add_mul]
    refine Int.mul_le_mul_of_nonneg_right ?_ (Int.natCast_nonneg _)
    rw [Int.add_mul]
    have := hx.2.2; have := hy.2.2
    omega
theorem in_sub {x y : Nat} {a b c d : Int} (hx : In x a b) (hy : In y c d) (h1 : -9007199254740992 < a - d) (h2 : b - c < 9007199254740992) :
    ∃ r, floatBits .sub .f64 x y = some r ∧ In r (a - d) (b - c) := by
  obtain ⟨s, m, i, e1, e2, e3, _⟩ := read_sc hx.1
  obtain ⟨t, n, j, f1, f2, f3, _⟩ := read_sc hy.1
  obtain ⟨g, k, base, g1, g2, g3⟩ := sum_sc s (!t) m n i j (by omega) (by omega)
  refine ⟨D.nearest g k base, ?_, write_in g k base g3 _ _ h1 h2 ?_ ?_⟩
  · show ((D.read x).sum (D.read y).opposite).map D.write = _
    rw [e1, f1]
    show ((Ieee.Datum.number s m i).sum (.number (!t) n j)).map D.write = _
    rw [g1]; rfl
  · rw [g2, e2, sc_opp, f2, ← Int.sub_eq_add_neg, ← Int.sub_mul]
    refine Int.mul_le_mul_of_nonneg_right ?_ (Int.natCast_nonneg _)
    rw [Int.sub_mul]
    have := hx.2.1; have := hy.2.2
    omega
  · rw [g2, e2, sc_opp, f2, ← Int.sub_eq_add_neg, ← Int.sub_mul]
    refine Int.mul_le_mul_of_nonneg_right ?_ (Int.natCast_nonneg _)
    rw [Int.sub_mul]
    have := hx.2.2; have := hy.2.1
    omega

theorem mul_lo {X Y a b L : Int} (h1 : a ≤ X) (h2 : X ≤ b) (h3 : L ≤ a * Y) (h4 : L ≤ b * Y) : L ≤ X * Y := by
  rcases Int.le_total 0 Y with h | h
  · exact Int.le_trans h3 (Int.mul_le_mul_of_nonneg_right h1 h)
  · exact Int.le_trans h4 (Int.mul_le_mul_of_nonpos_right h2 h)
theorem mul_hi {X Y a b L : Int} (h1 : a ≤ X) (h2 : X ≤ b) (h3 : a * Y ≤ L) (h4 : b * Y ≤ L) : X * Y ≤ L := by
  rcases Int.le_total 0 Y with h | h
  · exact Int.le_trans (Int.mul_le_mul_of_nonneg_right h2 h) h4
  · exact Int.le_trans (Int.mul_le_mul_of_nonpos_right h1 h) h3
theorem corner_lo {X Y a b c d L : Int} (h1 : a ≤ X) (h2 : X ≤ b) (h3 : c ≤ Y) (h4 : Y ≤ d) (g1 : L ≤ a * c) (g2 : L ≤ a * d) (g3 : L ≤ b * c) (g4 : L ≤ b * d) : L ≤ X * Y := by
  refine mul_lo h1 h2 ?_ ?_
  · rw [Int.mul_comm]; exact mul_lo h3 h4 (by rw [Int.mul_comm]; exact g1) (by rw [Int.mul_comm]; exact g2)
  · rw [Int.mul_comm]; exact mul_lo h3 h4 (by rw [Int.mul_comm]; exact g3) (by rw [Int.mul_comm]; exact g4)
theorem corner_hi {X Y a b c d L : Int} (h1 : a ≤ X) (h2 : X ≤ b) (h3 : c ≤ Y) (h4 : Y ≤ d) (g1 : a * c ≤ L) (g2 : a * d ≤ L) (g3 : b * c ≤ L) (g4 : b * d ≤ L) : X * Y ≤ L := by
  refine mul_hi h1 h2 ?_ ?_
  · rw [Int.mul_comm]; exact mul_hi h3 h4 (by rw [Int.mul_comm]; exact g1) (by rw [Int.mul_comm]; exact g2)
  · rw [Int.mul_comm]; exact mul_hi h3 h4 (by rw [Int.mul_comm]; exact g3) (by rw [Int.mul_comm]; exact g4)

theorem sg_bool (x : Nat) : sg x = if decide (9223372036854775808 ≤ x) = true then -(val (rungOf x) : Int) else (val (rungOf x) : Int) := by
  unfold sg
  by_cases h : 9223372036854775808 ≤ x
  · rw [if_neg (by omega), if_pos (decide_eq_true h)]
  · rw [if_pos (by omega), if_neg (by simpa using h)]
theorem prod_sc {x y : Nat} (hx : Fin x) (hy : Fin y) : ∃ g k e, (D.read x).product (D.read y) = some (.number g k e) ∧ sc g k e = sg x * sg y * ((2 ^ 52 : Nat) : Int) ∧ -2200 ≤ e := by
  obtain ⟨m, i, e1, e2, e3, e4, e5⟩ := read_fin hx
  obtain ⟨n, j, f1, f2, f3, f4, f5⟩ := read_fin hy
  refine ⟨_, m * n, i + j, by rw [e1, f1]; rfl, ?_, by omega⟩
  have e : m * n * 2 ^ (i + j + 2200).toNat = val (rungOf x) * val (rungOf y) * 2 ^ 52 := by
    rw [← e2, ← f2, Nat.mul_mul_mul_comm, Nat.mul_assoc (m * n), ← Nat.pow_add, ← Nat.pow_add]
    congr 2
    omega
  rw [sg_bool x, sg_bool y]
  unfold sc
  rw [e]
  generalize decide (9223372036854775808 ≤ x) = b1
  generalize decide (9223372036854775808 ≤ y) = b2
  generalize val (rungOf x) = X
  generalize val (rungOf y) = Y
  cases b1 <;> cases b2 <;> simp [Int.neg_mul, Int.mul_neg]

theorem mmc (a u c v : Int) : a * u * (c * v) = a * c * (u * v) := by
  rw [Int.mul_assoc, Int.mul_left_comm u c v, ← Int.mul_assoc]
theorem unit_eq : ((2 ^ UE : Nat) : Int) * ((2 ^ UE : Nat) : Int) * ((2 ^ 52 : Nat) : Int) * 1099511627776 = ((2 ^ UE : Nat) : Int) * ((2 ^ SH : Nat) : Int) := by
  have h : 2 ^ UE * 2 ^ UE * 2 ^ 52 * 2 ^ 40 = 2 ^ UE * 2 ^ SH := by
    rw [← Nat.pow_add, ← Nat.pow_add, ← Nat.pow_add, ← Nat.pow_add]
    congr 1
  have := congrArg (fun n : Nat => (n : Int)) h
  simp only [Int.natCast_mul] at this
  exact this

theorem in_mul {x y : Nat} {a b c d : Int} (P Q : Int) (hx : In x a b) (hy : In y c d) (h1 : -9007199254740992 < P) (h2 : Q < 9007199254740992)
    (g1 : P * 1099511627776 ≤ a * c) (g2 : P * 1099511627776 ≤ a * d) (g3 : P * 1099511627776 ≤ b * c) (g4 : P * 1099511627776 ≤ b * d)
    (k1 : a * c ≤ Q * 1099511627776) (k2 : a * d ≤ Q * 1099511627776) (k3 : b * c ≤ Q * 1099511627776) (k4 : b * d ≤ Q * 1099511627776) :
    ∃ r, floatBits .mul .f64 x y = some r ∧ In r P Q := by
  obtain ⟨g, k, e, e1, e2, e3⟩ := prod_sc hx.1 hy.1
  have hu : (0 : Int) ≤ ((2 ^ UE : Nat) : Int) := Int.natCast_nonneg _
  have hl := hx.2; have hr := hy.2
  have ue := unit_eq
  refine ⟨D.nearest g k e, ?_, write_in g k e e3 _ _ h1 h2 ?_ ?_⟩
  · show ((D.read x).product (D.read y)).map D.write = _
    rw [e1]; rfl
  · rw [e2, Int.mul_assoc P, ← ue]
    generalize ((2 ^ UE : Nat) : Int) = u at *
    have key : P * 1099511627776 * (u * u) ≤ sg x * sg y := by
      refine corner_lo hl.1 hl.2 hr.1 hr.2 ?_ ?_ ?_ ?_
      · rw [mmc a u c u]; exact Int.mul_le_mul_of_nonneg_right g1 (Int.mul_nonneg hu hu)
      · rw [mmc a u d u]; exact Int.mul_le_mul_of_nonneg_right g2 (Int.mul_nonneg hu hu)
      · rw [mmc b u c u]; exact Int.mul_le_mul_of_nonneg_right g3 (Int.mul_nonneg hu hu)
      · rw [mmc b u d u]; exact Int.mul_le_mul_of_nonneg_right g4 (Int.mul_nonneg hu hu)
    have e : P * (u * u * ((2 ^ 52 : Nat) : Int) * 1099511627776) = P * 1099511627776 * (u * u) * ((2 ^ 52 : Nat) : Int) := by
      rw [Int.mul_comm _ 1099511627776, ← Int.mul_assoc, ← Int.mul_assoc]
    rw [e]
    exact Int.mul_le_mul_of_nonneg_right key (Int.natCast_nonneg _)
  · rw [e2, Int.mul_assoc Q, ← ue]
    generalize ((2 ^ UE : Nat) : Int) = u at *
    have key : sg x * sg y ≤ Q * 1099511627776 * (u * u) := by
      refine corner_hi hl.1 hl.2 hr.1 hr.2 ?_ ?_ ?_ ?_
      · rw [mmc a u c u]; exact Int.mul_le_mul_of_nonneg_right k1 (Int.mul_nonneg hu hu)
      · rw [mmc a u d u]; exact Int.mul_le_mul_of_nonneg_right k2 (Int.mul_nonneg hu hu)
      · rw [mmc b u c u]; exact Int.mul_le_mul_of_nonneg_right k3 (Int.mul_nonneg hu hu)
      · rw [mmc b u d u]; exact Int.mul_le_mul_of_nonneg_right k4 (Int.mul_nonneg hu hu)
    have e : Q * (u * u * ((2 ^ 52 : Nat) : Int) * 1099511627776) = Q * 1099511627776 * (u * u) * ((2 ^ 52 : Nat) : Int) := by
      rw [Int.mul_comm _ 1099511627776, ← Int.mul_assoc, ← Int.mul_assoc]
    rw [e]
    exact Int.mul_le_mul_of_nonneg_right key (Int.natCast_nonneg _)

/-! ### Division: a crude bound -/
def TH : Nat := 2199
theorem TH_eq : TH = 2199 := rfl
theorem in_div {x y : Nat} {a b c d : Int} (A Q : Int) (hx : In x a b) (hy : In y c d) (hc : 0 < c) (ha : -A ≤ a) (hb : b ≤ A) (hQ : Q < 9007199254740992) (h : 3 * A * 549755813888 ≤ Q * c) :
    ∃ r, floatBits .quo .f64 x y = some r ∧ In r (-Q) Q := by
  obtain ⟨m, i, e1, e2, e3, e4, e5⟩ := read_fin hx.1
  obtain ⟨n, j, f1, f2, f3, f4, f5⟩ := read_fin hy.1
  have hu0 : (0 : Int) < ((2 ^ UE : Nat) : Int) := Int.natCast_pos.2 (Nat.two_pow_pos _)
  have hA0 : 0 ≤ A := by
    have h1 := hx.2.1; have h2 := hx.2.2
    have h3 : a * ((2 ^ UE : Nat) : Int) ≤ b * ((2 ^ UE : Nat) : Int) := Int.le_trans h1 h2
    have h4 := Int.le_of_mul_le_mul_right h3 hu0
    omega
  -- the two magnitudes
  have vx : (val (rungOf x) : Int) ≤ A * ((2 ^ UE : Nat) : Int) := by
    have h1 := hx.2.1; have h2 := hx.2.2
    have h3 : -A * ((2 ^ UE : Nat) : Int) ≤ a * ((2 ^ UE : Nat) : Int) := Int.mul_le_mul_of_nonneg_right ha (Int.le_of_lt hu0)
    have h4 : b * ((2 ^ UE : Nat) : Int) ≤ A * ((2 ^ UE : Nat) : Int) := Int.mul_le_mul_of_nonneg_right hb (Int.le_of_lt hu0)
    rw [Int.neg_mul] at h3
    unfold sg at h1 h2
    split at h1 <;> omega
  have vy : c * ((2 ^ UE : Nat) : Int) ≤ (val (rungOf y) : Int) := by
    have h1 := hy.2.1
    have h3 : 0 < c * ((2 ^ UE : Nat) : Int) := Int.mul_pos hc hu0
    unfold sg at h1
    split at h1 <;> omega
  have hn : 0 < n := by
    rcases Nat.eq_zero_or_pos n with h0 | h0
    · have h3 : 0 < c * ((2 ^ UE : Nat) : Int) := Int.mul_pos hc hu0
      rw [h0, Nat.zero_mul] at f2
      omega
    · exact h0
  have hnl : n.log2 ≤ 52 := by
    have h1 : 2 ^ n.log2 ≤ n := Nat.log2_self_le (by omega)
    rcases Nat.lt_or_ge 52 n.log2 with h2 | h2
    · have : 2 ^ 53 ≤ 2 ^ n.log2 := Nat.pow_le_pow_right (by omega) h2
      omega
    · exact h2
  obtain ⟨mo, hmo⟩ : ∃ mo, mo = 54 + n.log2 - m.log2 := ⟨_, rfl⟩
  obtain ⟨q, hq⟩ : ∃ q, q = 2 * ((m <<< mo) / n) + ((m <<< mo) % n != 0).toNat := ⟨_, rfl⟩
  have hdiv : (Ieee.Datum.quotient (D.fractionBits + 2) (D.read x) (D.read y)) = some (.number (decide (9223372036854775808 ≤ x) ^^ decide (9223372036854775808 ≤ y)) q (i - j - mo - 1)) := by
    rw [e1, f1]
    have e54 : D.fractionBits + 2 = 54 := rfl
    simp only [Ieee.Datum.quotient]
    rw [if_neg (by omega), e54, ← hmo, ← hq]
  -- q * n is at most three times the dividend
  have hqn : q * n ≤ 3 * (m * 2 ^ mo) := by
    rcases Nat.eq_zero_or_pos m with h0 | h0
    · subst h0
      have : q = 0 := by rw [hq]; simp
      rw [this]; simp
    · have h1 : 2 ^ m.log2 ≤ m := Nat.log2_self_le (by omega)
      have h2 : n < 2 ^ (n.log2 + 1) := Nat.lt_log2_self
      have h3 : n ≤ m * 2 ^ mo := by
        have h4 : 2 ^ m.log2 * 2 ^ mo ≤ m * 2 ^ mo := Nat.mul_le_mul_right _ h1
        rw [← Nat.pow_add] at h4
        have h5 : 2 ^ (n.log2 + 1) ≤ 2 ^ (m.log2 + mo) := Nat.pow_le_pow_right (by omega) (by omega)
        omega
      rw [Nat.shiftLeft_eq] at hq
      generalize m * 2 ^ mo = DD at *
      have h6 : ((DD % n != 0).toNat) ≤ 1 := Bool.toNat_le _
      have h7 : DD / n * n ≤ DD := Nat.div_mul_le_self _ _
      have h8 : q * n ≤ (2 * (DD / n) + 1) * n := Nat.mul_le_mul_right n (by omega)
      rw [Nat.add_mul, Nat.mul_assoc, Nat.one_mul] at h8
      omega
  have hpl : -2200 ≤ i - j - mo - 1 := by omega
  -- in units of 2 ^ -2200
  have key : q * 2 ^ (i - j - mo - 1 + 2200).toNat * val (rungOf y) ≤ 3 * val (rungOf x) * 2 ^ TH := by
    rw [← e2, ← f2]
    have l1 : q * 2 ^ (i - j - mo - 1 + 2200).toNat * (n * 2 ^ (j + 1074).toNat) = q * n * 2 ^ ((i - j - mo - 1 + 2200).toNat + (j + 1074).toNat) := by
      rw [Nat.mul_mul_mul_comm, ← Nat.pow_add]
    have l2 : 3 * (m * 2 ^ mo) * 2 ^ ((i - j - mo - 1 + 2200).toNat + (j + 1074).toNat) = 3 * (m * 2 ^ (i + 1074).toNat) * 2 ^ TH := by
      have ee : mo + ((i - j - mo - 1 + 2200).toNat + (j + 1074).toNat) = (i + 1074).toNat + TH := by have := TH_eq; omega
      rw [Nat.mul_assoc, Nat.mul_assoc, Nat.mul_assoc, Nat.mul_assoc, ← Nat.pow_add, ← Nat.pow_add, ee]
    rw [l1, ← l2]
    exact Nat.mul_le_mul_right _ hqn
  -- the bound on what is written
  obtain ⟨A', rfl⟩ := Int.eq_ofNat_of_zero_le hA0
  obtain ⟨c', rfl⟩ := Int.eq_ofNat_of_zero_le (Int.le_of_lt hc)
  have hQ0 : 0 ≤ Q := by
    rcases Int.lt_or_le Q 0 with h1 | h1
    · have := Int.mul_neg_of_neg_of_pos h1 hc
      omega
    · exact h1
  obtain ⟨Q', rfl⟩ := Int.eq_ofNat_of_zero_le hQ0
  have bound : q * 2 ^ (i - j - mo - 1 + 2200).toNat ≤ Q' * 2 ^ UE * 2 ^ SH := by
    have vx' : val (rungOf x) ≤ A' * 2 ^ UE := by
      have : ((A' * 2 ^ UE : Nat) : Int) = (A' : Int) * ((2 ^ UE : Nat) : Int) := Int.natCast_mul _ _
      omega
    have vy' : c' * 2 ^ UE ≤ val (rungOf y) := by
      have : ((c' * 2 ^ UE : Nat) : Int) = (c' : Int) * ((2 ^ UE : Nat) : Int) := Int.natCast_mul _ _
      omega
    have h' : 3 * A' * 549755813888 ≤ Q' * c' := by
      have : ((Q' * c' : Nat) : Int) = (Q' : Int) * (c' : Int) := Int.natCast_mul _ _
      omega
    generalize q * 2 ^ (i - j - mo - 1 + 2200).toNat = S at *
    have k1 : S * (c' * 2 ^ UE) ≤ 3 * (A' * 2 ^ UE) * 2 ^ TH :=
      Nat.le_trans (Nat.mul_le_mul_left S vy') (Nat.le_trans key (Nat.mul_le_mul_right _ (Nat.mul_le_mul_left 3 vx')))
    have p1 : 2 ^ TH = 549755813888 * (2 ^ UE * 2 ^ SH) := by
      rw [← Nat.pow_add, show (549755813888 : Nat) = 2 ^ 39 from rfl, ← Nat.pow_add]
      congr 1
    have k2 : S * c' * 2 ^ UE ≤ (Q' * 2 ^ UE * 2 ^ SH) * c' * 2 ^ UE := by
      have k3 : 3 * (A' * 2 ^ UE) * 2 ^ TH = 3 * A' * 549755813888 * (2 ^ UE * 2 ^ SH) * 2 ^ UE := by
        rw [p1]
        generalize 2 ^ UE = u
        generalize 2 ^ SH = v
        rw [← Nat.mul_assoc 3, Nat.mul_right_comm (3 * A') u, ← Nat.mul_assoc (3 * A') 549755813888]
      have k4 : 3 * A' * 549755813888 * (2 ^ UE * 2 ^ SH) ≤ Q' * c' * (2 ^ UE * 2 ^ SH) := Nat.mul_le_mul_right _ h'
      have k5 : Q' * c' * (2 ^ UE * 2 ^ SH) = Q' * 2 ^ UE * 2 ^ SH * c' := by
        rw [Nat.mul_right_comm, ← Nat.mul_assoc]
      rw [k3, ← Nat.mul_assoc] at k1
      exact Nat.le_trans k1 (Nat.mul_le_mul_right _ (Nat.le_trans k4 (Nat.le_of_eq k5)))
    have k6 := Nat.le_of_mul_le_mul_right k2 (Nat.two_pow_pos _)
    exact Nat.le_of_mul_le_mul_right k6 (by omega)
  have bi : ((q * 2 ^ (i - j - mo - 1 + 2200).toNat : Nat) : Int) ≤ (Q' : Int) * ((2 ^ UE : Nat) : Int) * ((2 ^ SH : Nat) : Int) := by
    have : ((Q' * 2 ^ UE * 2 ^ SH : Nat) : Int) = (Q' : Int) * ((2 ^ UE : Nat) : Int) * ((2 ^ SH : Nat) : Int) := by rw [Int.natCast_mul, Int.natCast_mul]
    omega
  refine ⟨D.nearest (decide (9223372036854775808 ≤ x) ^^ decide (9223372036854775808 ≤ y)) q (i - j - mo - 1), ?_, write_in (decide (9223372036854775808 ≤ x) ^^ decide (9223372036854775808 ≤ y)) q (i - j - mo - 1) hpl _ _ (by omega) hQ ?_ ?_⟩
  · show ((D.read x).quotient (D.fractionBits + 2) (D.read y)).map D.write = _
    rw [hdiv]; rfl
  · unfold sc
    rw [Int.neg_mul, Int.neg_mul]
    split <;> omega
  · unfold sc
    split <;> omega

/-! ### Comparisons -/
theorem order_fin {x y : Nat} (hx : Fin x) (hy : Fin y) : D.order x y = some (compare (sg x) (sg y)) := by
  obtain ⟨s, m, i, e1, e2, e3, e4, e5, e6⟩ := read_sc hx
  obtain ⟨t, n, j, f1, f2, f3, f4, f5, f6⟩ := read_sc hy
  unfold Ieee.Format.order
  rw [e1, f1]
  simp only [Ieee.Datum.order]
  congr 1
  have h1 := signed_sc s m i (min i j) (by omega) (by omega)
  have h2 := signed_sc t n j (min i j) (by omega) (by omega)
  rw [e2] at h1
  rw [f2] at h2
  have hp : (0 : Int) < ((2 ^ (min i j + 2200).toNat : Nat) : Int) := Int.natCast_pos.2 (Nat.two_pow_pos _)
  have hq : (0 : Int) < ((2 ^ SH : Nat) : Int) := Int.natCast_pos.2 (Nat.two_pow_pos _)
  generalize ((2 ^ (min i j + 2200).toNat : Nat) : Int) = p at *
  generalize ((2 ^ SH : Nat) : Int) = q at *
  generalize Ieee.signed s m (i - min i j).toNat = X at *
  generalize Ieee.signed t n (j - min i j).toNat = Y at *
  have lt_iff : X < Y ↔ sg x < sg y := by
    constructor
    · intro h
      have := Int.mul_lt_mul_of_pos_right h hp
      rw [h1, h2] at this
      exact Int.lt_of_mul_lt_mul_right this (Int.le_of_lt hq)
    · intro h
      have := Int.mul_lt_mul_of_pos_right h hq
      rw [← h1, ← h2] at this
      exact Int.lt_of_mul_lt_mul_right this (Int.le_of_lt hp)
  have eq_iff : X = Y ↔ sg x = sg y := by
    constructor
    · intro h
      rw [h, h2] at h1
      exact (Int.eq_of_mul_eq_mul_right (Int.ne_of_gt hq) h1).symm
    · intro h
      rw [h, ← h2] at h1
      exact Int.eq_of_mul_eq_mul_right (Int.ne_of_gt hp) h1
  simp only [compare, compareOfLessAndEq, lt_iff, eq_iff]

/-! ### Conversions -/
theorem in_ofInt (k : Int) (h1 : -4096 < k) (h2 : k < 4096) : In (floatOfInt .f64 k) (k * 1099511627776) (k * 1099511627776) := by
  show In (D.nearest (k < 0) k.natAbs 0) _ _
  have e : sc (decide (k < 0)) k.natAbs 0 = k * 1099511627776 * ((2 ^ UE : Nat) : Int) * ((2 ^ SH : Nat) : Int) := by
    have h : 2 ^ 2200 = 1099511627776 * 2 ^ UE * 2 ^ SH := by
      rw [show (1099511627776 : Nat) = 2 ^ 40 from rfl, ← Nat.pow_add, ← Nat.pow_add]
      congr 1
    unfold sc
    rw [show ((0 : Int) + 2200).toNat = 2200 from rfl, h, Int.mul_assoc, Int.mul_assoc]
    by_cases hk : k < 0
    · rw [if_pos (decide_eq_true hk)]
      obtain ⟨n, hn⟩ := Int.eq_ofNat_of_zero_le (show 0 ≤ -k by omega)
      obtain rfl : k = -(n : Int) := by omega
      rw [Int.natAbs_neg, Int.natAbs_natCast]
      simp only [Int.natCast_mul, Int.neg_mul, Int.mul_assoc]
      rfl
    · rw [if_neg (by simpa using hk)]
      obtain ⟨n, rfl⟩ := Int.eq_ofNat_of_zero_le (show 0 ≤ k by omega)
      rw [Int.natAbs_natCast]
      simp only [Int.natCast_mul, Int.mul_assoc]
      rfl
  exact write_in _ _ _ (by omega) _ _ (by omega) (by omega) (Int.le_of_eq e.symm) (Int.le_of_eq e)

end Go.Proofs.Ybulkdpsg

/- THE PLAIN LAW UNDER S5833C: no Go in sight. -/
namespace Go.Proofs.Ybulkdptw

theorem help1 (s t y K : Nat) : s * ((t + 1) * K + 63 * y) = s * t * K + s * K + 63 * (s * y) := by
  rw [Nat.mul_add, Nat.add_mul, Nat.mul_add, ← Nat.mul_assoc s t, Nat.one_mul, Nat.mul_left_comm s 63 y]
theorem help2 (D y : Nat) : (64 * D + 63) * y = 64 * (D * y) + 63 * y := by rw [Nat.add_mul, Nat.mul_assoc]

theorem lin2 (st sdy dsy dd : Nat) (h1 : st * 8796093022208 ≤ sdy) (h2 : sdy = dsy) (h3 : dsy ≤ dd * 9223372036854775808) : st * 4194304 ≤ dd * 4398046511104 := by
  refine Nat.le_of_mul_le_mul_right (c := 2097152) ?_ (by decide)
  have e1 : st * 4194304 * 2097152 = st * 8796093022208 := Nat.mul_assoc _ _ _
  have e2 : dd * 4398046511104 * 2097152 = dd * 9223372036854775808 := Nat.mul_assoc _ _ _
  rw [e1, e2]
  exact Nat.le_trans h1 (h2 ▸ h3)
theorem lin3 (s st sy dsy dd : Nat) (h1 : dsy ≤ st * 8796093022208 + s * 8796093022208 + 63 * sy) (h2 : dd * 9223372036854775808 ≤ dsy + dd * 34359738368) (h3 : s < 4294967296) (h4 : sy ≤ 9223372036854775808) (h5 : dd ≤ 68719476736) :
    dd * 4398046511104 ≤ st * 4194304 + 72057594037927936 := by
  refine Nat.le_of_mul_le_mul_right (c := 2097152) ?_ (by decide)
  have e1 : dd * 4398046511104 * 2097152 = dd * 9223372036854775808 := Nat.mul_assoc _ _ _
  have e2 : (st * 4194304 + 72057594037927936) * 2097152 = st * 8796093022208 + 151115727451828646838272 := by rw [Nat.add_mul, Nat.mul_assoc]
  rw [e1, e2]
  omega
theorem lin1 (X t1 A B : Nat) (h : X < t1 * 137438953472) (h2 : A ≤ 64 * X + B) : A ≤ t1 * 8796093022208 + B := by
  have e : t1 * 8796093022208 = 64 * (t1 * 137438953472) := by rw [Nat.mul_comm 64, Nat.mul_assoc]
  rw [e]
  omega
theorem lin4 (X A t : Nat) (h : t * 137438953472 ≤ X) (h2 : 64 * X ≤ A) : t * 8796093022208 ≤ A := by
  have e : t * 8796093022208 = 64 * (t * 137438953472) := by rw [Nat.mul_comm 64, Nat.mul_assoc]
  rw [e]
  omega

/-- How far the estimate is off. -/
theorem est_bounds (u s0 a Y b s y d D t : Nat) (hu : u < 18446744073709551616) (hs1 : 2147483648 ≤ s0) (hs2 : s0 < 4294967296)
    (hlo : s0 * s0 ≤ u) (hhi : u < (s0 + 1) * (s0 + 1)) (ha : a ≤ 3) (hb : b ≤ 3) (hs : s = s0 - a) (hY : Y = 9223372036854775808 / (s0 + 1)) (hy : y = Y - b)
    (hd : d = u - s * s) (hD : D = d / 64) (ht : t = D * y / 137438953472) :
    s * s ≤ u ∧ d ≤ 68719476736 ∧ y < 4294967296 ∧ 3 ≤ Y ∧ D * y < 18446744073709551616 ∧ t ≤ 33554432 ∧
    s * t * 4194304 ≤ d * 4398046511104 ∧ d * 4398046511104 ≤ s * t * 4194304 + 72057594037927936 := by
  have hA : s + a = s0 := by omega
  have e1 : (s + a) * (s + a) = s * s + 2 * (s * a) + a * a := by
    rw [Nat.add_mul, Nat.mul_add, Nat.mul_add, Nat.mul_comm a s]; omega
  have e2 : (s0 + 1) * (s0 + 1) = s0 * s0 + 2 * s0 + 1 := by
    rw [Nat.add_mul, Nat.mul_add]; omega
  rw [hA] at e1
  have h3 : s * a ≤ s * 3 := Nat.mul_le_mul_left s ha
  have h4 : a * a ≤ 3 * 3 := Nat.mul_le_mul ha ha
  have g1 : s * s ≤ u := by omega
  have g2 : d ≤ 68719476736 := by omega
  -- the reciprocal
  have r1 : (s0 + 1) * Y ≤ 9223372036854775808 := by rw [hY]; exact Nat.mul_div_le _ _
  have r2 : 9223372036854775808 < (s0 + 1) * (Y + 1) := by rw [hY]; exact Nat.lt_mul_div_succ _ (by omega)
  have r3 : Y < 4294967296 := by
    rcases Nat.lt_or_ge Y 4294967296 with h | h
    · exact h
    · have := Nat.mul_le_mul (show 2147483649 ≤ s0 + 1 by omega) h
      omega
  have r4 : 3 ≤ Y := by
    rcases Nat.lt_or_ge Y 3 with h | h
    · have := Nat.mul_le_mul (show s0 + 1 ≤ 4294967296 by omega) (show Y + 1 ≤ 3 by omega)
      omega
    · exact h
  have g3 : y < 4294967296 := by omega
  have hyY : y + b = Y := by omega
  have D1 : 64 * D ≤ d := by omega
  have D2 : d ≤ 64 * D + 63 := by omega
  have D3 : D ≤ 1073741824 := by omega
  have g5 : D * y ≤ 1073741824 * 4294967295 := Nat.mul_le_mul D3 (by omega)
  have T1 : t * 137438953472 ≤ D * y := by rw [ht]; exact Nat.div_mul_le_self _ _
  have T2 : D * y < (t + 1) * 137438953472 := by rw [ht]; have := Nat.lt_mul_div_succ (D * y) (show 0 < 137438953472 by omega); omega
  have g6 : t ≤ 33554432 := by omega
  -- s * y lies a little below 2^63
  have sy : s * y ≤ (s0 + 1) * Y := Nat.mul_le_mul (by omega) (by omega)
  have e3 : (s0 + 1) * (Y + 1) = s * y + s * (b + 1) + (a + 1) * (Y + 1) := by
    rw [show s0 + 1 = s + (a + 1) by omega, Nat.add_mul, show Y + 1 = y + (b + 1) by omega, Nat.mul_add]
  have h5 : s * (b + 1) ≤ s * 4 := Nat.mul_le_mul_left s (by omega)
  have h6 : (a + 1) * (Y + 1) ≤ 4 * (Y + 1) := Nat.mul_le_mul_right _ (by omega)
  have sy2 : 9223372036854775808 ≤ s * y + 34359738368 := by omega
  -- d * y against t
  have q1 : t * 8796093022208 ≤ d * y := by
    have : (64 * D) * y ≤ d * y := Nat.mul_le_mul_right y D1
    have e : (64 * D) * y = 64 * (D * y) := Nat.mul_assoc _ _ _
    exact lin4 (D * y) (d * y) t T1 (by rw [← e]; exact this)
  have q2 : d * y ≤ (t + 1) * 8796093022208 + 63 * y := by
    have : d * y ≤ (64 * D + 63) * y := Nat.mul_le_mul_right y D2
    have e := help2 D y
    exact lin1 (D * y) (t + 1) (d * y) (63 * y) T2 (by rw [← e]; exact this)
  have c1 : s * (d * y) = d * (s * y) := by rw [← Nat.mul_assoc, Nat.mul_comm s d, Nat.mul_assoc]
  have p1 : s * (t * 8796093022208) ≤ s * (d * y) := Nat.mul_le_mul_left s q1
  have p2 : d * (s * y) ≤ d * 9223372036854775808 := Nat.mul_le_mul_left d (by omega)
  have e4 : s * (t * 8796093022208) = s * t * 8796093022208 := (Nat.mul_assoc _ _ _).symm
  have p3 : s * (d * y) ≤ s * ((t + 1) * 8796093022208 + 63 * y) := Nat.mul_le_mul_left s q2
  have e5 := help1 s t y 8796093022208
  have p4 : d * 9223372036854775808 ≤ d * (s * y + 34359738368) := Nat.mul_le_mul_left d sy2
  have e6 : d * (s * y + 34359738368) = d * (s * y) + d * 34359738368 := Nat.mul_add _ _ _
  rw [e4] at p1
  rw [e5, c1] at p3
  rw [e6] at p4
  exact ⟨g1, g2, g3, r4, by omega, g6, lin2 _ _ _ _ p1 c1 p2, lin3 s (s * t) (s * y) (d * (s * y)) d p3 p4 (by omega) (Nat.le_trans sy r1) g2⟩

/-- A square's root is one alone. -/
theorem root_unique (n q r : Nat) (h1 : q * q ≤ n) (h2 : n < (q + 1) * (q + 1)) (h3 : r * r ≤ n) (h4 : n < (r + 1) * (r + 1)) : q = r := by
  rcases Nat.lt_trichotomy q r with h | h | h
  · have := Nat.mul_le_mul (show q + 1 ≤ r from h) (show q + 1 ≤ r from h); omega
  · exact h
  · have := Nat.mul_le_mul (show r + 1 ≤ q from h) (show r + 1 ≤ q from h); omega
theorem sq_lt_iff {a b : Nat} (h : a * a < b * b) : a < b := by
  rcases Nat.lt_or_ge a b with h' | h'
  · exact h'
  · have := Nat.mul_le_mul h' h'; omega
end Go.Proofs.Ybulkdptw

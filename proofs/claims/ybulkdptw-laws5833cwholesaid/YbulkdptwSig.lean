import Derived.Test.YbulkdptwExact
namespace Go.Proofs.Ybulkdptw
open Go.RowKit
set_option linter.unusedVariables false

set_option maxHeartbeats 1000000 in
theorem sig_any (u s y S d D P t q0 n N : Nat) (hs : s < 4294967296) (hy : y < 4294967296) (hu : u < 18446744073709551616)
    (e1 : IntKind.u64.wrap ((s : Int) * (s : Int)) = (S : Int)) (e2 : (u : Int) - (S : Int) = (d : Int)) (e3 : (d : Int) / 64 = (D : Int)) (e4 : IntKind.u64.wrap ((D : Int) * (y : Int)) = (P : Int)) (e5 : (P : Int) / 137438953472 = (t : Int))
    (e6 : (s : Int) * 2097152 + (t : Int) = (q0 : Int)) (e7 : IntKind.u64.wrap ((u : Int) * 4398046511104) = (n : Int)) (hS : S ≤ u) (hd : d ≤ 68719476736) (ht : t ≤ 33554432)
    (hn : Hid (n = N % 18446744073709551616)) (hN : 4 ≤ N) (hN' : N < 81129638414606681695789005144064) (hq : q0 ≤ 18014398509481984) (hq1 : 1 ≤ q0) (h1 : Hid ((q0 : Int) * q0 < N + 4611686018427387904)) (h2 : Hid ((N : Int) < q0 * q0 + 4611686018427387904)) (w : World) :
    Calls Yba.prog 9 #[.int .u64 u, .int .u64 s, .int .u64 y] w fun e w' => (∃ q : Nat, e = .returned (.tuple #[.int .u64 (q : Int), .int .u64 ((N - q * q : Nat) : Int)]) ∧ q * q ≤ N ∧ N < (q + 1) * (q + 1)) ∧ w = w' := by
  go_enter Yba.func9, Yba.ntmps9
  go_wp2_with (go_at_call 14; refine (exact_any n q0 N hn.out hN hN' hq hq1 h1.out h2.out _).mono ?_; rintro e w' ⟨⟨q, rfl, hq⟩, rfl⟩)
  go_ret2
  exact ⟨⟨q, rfl, hq⟩, rfl⟩

theorem q0_sq (s t : Nat) : (s * 2097152 + t) * (s * 2097152 + t) = s * s * 4398046511104 + s * t * 4194304 + t * t := by
  have e : (s * 2097152) * t = s * t * 2097152 := Nat.mul_right_comm _ _ _
  have e2 : t * (s * 2097152) = s * t * 2097152 := by rw [Nat.mul_comm t, e]
  have e3 : s * 2097152 * (s * 2097152) = s * s * 4398046511104 := by rw [Nat.mul_mul_mul_comm]
  rw [Nat.add_mul, Nat.mul_add, Nat.mul_add, e, e2, e3]
  omega

theorem hq_of (s t : Nat) (h : s < 4294967296) (h6 : t ≤ 33554432) : s * 2097152 + t ≤ 18014398509481984 := by omega

theorem sig_use (u s0 a b : Nat) (hu1 : 4611686018427387904 ≤ u) (hu : u < 18446744073709551616) (hs1 : 2147483648 ≤ s0) (hs2 : s0 < 4294967296)
    (hlo : s0 * s0 ≤ u) (hhi : u < (s0 + 1) * (s0 + 1)) (ha : a ≤ 3) (hb : b ≤ 3) (w : World) :
    Calls Yba.prog 9 #[.int .u64 u, .int .u64 ((s0 - a : Nat) : Int), .int .u64 ((9223372036854775808 / (s0 + 1) - b : Nat) : Int)] w fun e w' =>
      (∃ q : Nat, e = .returned (.tuple #[.int .u64 (q : Int), .int .u64 ((u * 4398046511104 - q * q : Nat) : Int)]) ∧ q * q ≤ u * 4398046511104 ∧ u * 4398046511104 < (q + 1) * (q + 1)) ∧ w = w' := by
  obtain ⟨s, hs⟩ : ∃ s, s = s0 - a := ⟨_, rfl⟩
  obtain ⟨Y, hY⟩ : ∃ Y, Y = 9223372036854775808 / (s0 + 1) := ⟨_, rfl⟩
  obtain ⟨y, hy⟩ : ∃ y, y = Y - b := ⟨_, rfl⟩
  obtain ⟨d, hd⟩ : ∃ d, d = u - s * s := ⟨_, rfl⟩
  obtain ⟨D, hD⟩ : ∃ D, D = d / 64 := ⟨_, rfl⟩
  obtain ⟨t, ht⟩ : ∃ t, t = D * y / 137438953472 := ⟨_, rfl⟩
  obtain ⟨g1, g2, g3, g4, g5, g6, g7, g8⟩ := est_bounds u s0 a Y b s y d D t hu hs1 hs2 hlo hhi ha hb hs hY hy hd hD ht
  have hs3 : s < 4294967296 := by omega
  have hq := hq_of s t hs3 g6
  have e := q0_sq s t
  have tt : t * t ≤ 33554432 * 33554432 := Nat.mul_le_mul g6 g6
  have ed : u = s * s + d := by omega
  have eN : u * 4398046511104 = s * s * 4398046511104 + d * 4398046511104 := by rw [ed, Nat.add_mul]
  have c1 : (((s * 2097152 + t) * (s * 2097152 + t) : Nat) : Int) = ((s * 2097152 + t : Nat) : Int) * ((s * 2097152 + t : Nat) : Int) := Int.natCast_mul _ _
  have f1 : (s * 2097152 + t) * (s * 2097152 + t) < u * 4398046511104 + 4611686018427387904 := by rw [e, eN]; omega
  have f2 : u * 4398046511104 < (s * 2097152 + t) * (s * 2097152 + t) + 4611686018427387904 := by rw [e, eN]; omega
  rw [← hs, ← hY, ← hy]
  refine sig_any u s y (s * s) d D (D * y) t (s * 2097152 + t) (u * 4398046511104 % 18446744073709551616) (u * 4398046511104) hs3 g3 hu ?_ ?_ ?_ ?_ ?_ ?_ ?_ g1 g2 g6 rfl (by omega) (by omega) hq (by omega) ?_ ?_ w
  · rw [IntKind.wrap_u64, ← Int.natCast_mul]; omega
  · omega
  · omega
  · rw [IntKind.wrap_u64, ← Int.natCast_mul]; omega
  · omega
  · omega
  · rw [IntKind.wrap_u64]; omega
  · show _ < _
    rw [← c1]; omega
  · show _ < _
    rw [← c1]; omega

theorem int_div (s0 : Nat) : (9223372036854775808 : Int) / ((s0 : Int) + 1) = ((9223372036854775808 / (s0 + 1) : Nat) : Int) := by
  rw [Int.natCast_ediv, Int.natCast_add]
  rfl

theorem y_form (s0 b : Nat) (h1 : s0 < 4294967296) : IntKind.u64.wrap ((9223372036854775808 : Int) / ((s0 : Int) + 1) - (b : Int) % 4) = ((9223372036854775808 / (s0 + 1) - b % 4 : Nat) : Int) := by
  have h : 3 ≤ 9223372036854775808 / (s0 + 1) := by
    rw [Nat.le_div_iff_mul_le (by omega)]
    omega
  have h' : 9223372036854775808 / (s0 + 1) ≤ 9223372036854775808 := Nat.div_le_self _ _
  rw [int_div, IntKind.wrap_u64]
  omega

theorem sig_law (u s0 a b : Nat) (hu1 : 4611686018427387904 ≤ u) (hu : u < 18446744073709551616) (hs1 : 2147483648 ≤ s0) (hs2 : s0 < 4294967296)
    (hlo : s0 * s0 ≤ u) (hhi : u < (s0 + 1) * (s0 + 1)) (w : World) :
    Calls Yba.prog 9 #[.int .u64 u, .int .u64 ((s0 : Int) - (a : Int) % 4), .int .u64 (IntKind.u64.wrap ((9223372036854775808 : Int) / ((s0 : Int) + 1) - (b : Int) % 4))] w fun e w' =>
      (∃ q r : Nat, e = .returned (.tuple #[.int .u64 (q : Int), .int .u64 (r : Int)]) ∧ r = u * 4398046511104 - q * q ∧ q * q ≤ u * 4398046511104 ∧ u * 4398046511104 < (q + 1) * (q + 1)) ∧ w = w' := by
  rw [y_form s0 b hs2, show (s0 : Int) - (a : Int) % 4 = ((s0 - a % 4 : Nat) : Int) from by omega]
  exact (sig_use u s0 (a % 4) (b % 4) hu1 hu hs1 hs2 hlo hhi (by omega) (by omega) w).mono fun e w' ⟨⟨q, he, h1, h2⟩, hw⟩ => ⟨⟨q, _, he, rfl, h1, h2⟩, hw⟩

/-- The product's two words. -/
theorem words (u : Nat) (hu : u < 18446744073709551616) : u / 4194304 * 18446744073709551616 + u * 4398046511104 % 18446744073709551616 = u * 4398046511104 := by omega
theorem rem_eq (N q nl : Nat) (h : q * q ≤ N) (h' : N < (q + 1) * (q + 1)) (hq : q < 9007199254740992) (hnl : nl = N % 18446744073709551616) :
    (((N - q * q : Nat) : Int) == IntKind.u64.wrap ((nl : Int) - IntKind.u64.wrap ((q : Int) * (q : Int)))) = true := by
  have e : (q + 1) * (q + 1) = q * q + 2 * q + 1 := by rw [Nat.add_mul, Nat.mul_add]; omega
  have e2 : ((q * q : Nat) : Int) = (q : Int) * q := Int.natCast_mul _ _
  rw [IntKind.wrap_u64, IntKind.wrap_u64, beq_iff_eq, ← e2]
  omega

set_option maxRecDepth 100000 in
set_option maxHeartbeats 1000000 in
theorem law_any (u a b : Nat) (hu1 : 4611686018427387904 ≤ u) (hu : u < 18446744073709551616) (ha : a ≤ 255) (hb : b ≤ 255) (w : World) :
    Calls Yba.prog 4 #[.int .u64 u, .int .u8 a, .int .u8 b] w fun e w' => e = .returned (.bool true) ∧ Grown w w' := by
  have HU1 : Hid (4611686018427387904 ≤ u) := hu1
  have hd : decide ((u : Int) < 4611686018427387904) = false := decide_eq_false (by omega)
  clear hu1
  obtain ⟨nh, hnh⟩ : ∃ nh : Nat, nh = u / 4194304 := ⟨_, rfl⟩
  obtain ⟨nl, hnl⟩ : ∃ nl : Nat, nl = u * 4398046511104 % 18446744073709551616 := ⟨_, rfl⟩
  have ih : (u : Int) / 4194304 = (nh : Int) := by omega
  have il : IntKind.u64.wrap ((u : Int) * 4398046511104) = (nl : Int) := by rw [IntKind.wrap_u64]; omega
  have bh : nh < 18446744073709551616 := by omega
  have bl : nl < 18446744073709551616 := by omega
  have HW : Hid (nh * 18446744073709551616 + nl = u * 4398046511104) := by rw [hnh, hnl]; exact words u hu
  have HNL : Hid (nl = u * 4398046511104 % 18446744073709551616) := hnl
  clear hnh hnl
  go_enter Yba.func4, Yba.ntmps4
  go_wp2_with (first | (go_at_call 8; refine (isqrt_any u HU1.out hu _).mono ?_; rintro e w' ⟨⟨s0, rfl, h1, h2, h3, h4⟩, rfl⟩; have H1 : Hid (s0 * s0 ≤ u) := h1; have H2 : Hid (u < (s0 + 1) * (s0 + 1)) := h2; clear h1 h2) | (go_at_call 9; refine (sig_law u s0 a b HU1.out hu h3 h4 H1.out H2.out _).mono ?_; rintro e w' ⟨⟨q, r, rfl, hr, h5, h6⟩, rfl⟩; have HR : Hid (r = u * 4398046511104 - q * q) := hr; clear hr; have H5 : Hid (q * q ≤ u * 4398046511104) := h5; have H6 : Hid (u * 4398046511104 < (q + 1) * (q + 1)) := h6; clear h5 h6))
  go_loop [14, 15] (fun x y => ∃ lo hi : Nat, x = .int .u64 lo ∧ y = .int .u64 hi ∧ lo < hi ∧ hi ≤ 9007199254740992 ∧ Hid (lo * lo ≤ u * 4398046511104) ∧ Hid (u * 4398046511104 < hi * hi)) (fun x y => (intOf y).toNat - (intOf x).toNat)
  case atStart => exact ⟨0, 9007199254740992, rfl, rfl, by omega, by omega, Nat.zero_le _, by show _ < _; omega⟩
  case round =>
    obtain ⟨lo, hi, rfl, rfl, hlt, hh, hlo, hhi⟩ := hrel
    by_cases hg : 1 < hi - lo
    · obtain ⟨mid, hmid⟩ : ∃ mid : Nat, mid = lo + (hi - lo) / 2 := ⟨_, rfl⟩
      obtain ⟨m1, m2⟩ := mid_lt hg hmid
      have em : (lo : Int) + ((hi : Int) - (lo : Int)) / 2 = (mid : Int) := by omega
      have hgi : (1 : Int) < (hi : Int) - (lo : Int) := by omega
      clear hmid
      by_cases hc : mid * mid ≤ u * 4398046511104
      · have hB : leB mid nh nl = true := by unfold leB; rw [HW.out]; exact decide_eq_true hc
        have HC : Hid (mid * mid ≤ u * 4398046511104) := hc
        clear hc
        go_wp2_with (go_at_call 10; refine (le_any mid nh nl (by omega) bh bl _).mono ?_; rintro e w' ⟨rfl, rfl⟩)
        go_round
        case rel => exact ⟨mid, hi, rfl, rfl, m2, hh, HC, hhi⟩
        case measure => simp [intOf]; omega
      · have hB : leB mid nh nl = false := by unfold leB; rw [HW.out]; exact decide_eq_false hc
        have HC : Hid (u * 4398046511104 < mid * mid) := by show _ < _; omega
        clear hc
        go_wp2_with (go_at_call 10; refine (le_any mid nh nl (by omega) bh bl _).mono ?_; rintro e w' ⟨rfl, rfl⟩)
        go_round
        case rel => exact ⟨lo, mid, rfl, rfl, m1, by omega, hlo, HC⟩
        case measure => simp [intOf]; omega
    · have hgi : ¬ (1 : Int) < (hi : Int) - (lo : Int) := by omega
      obtain rfl : q = lo := root_unique (u * 4398046511104) q lo H5.out H6.out hlo.out (by have e : hi = lo + 1 := by omega
                                                                                            rw [e] at hhi; exact hhi.out)
      have hrem : ((r : Int) == IntKind.u64.wrap ((nl : Int) - IntKind.u64.wrap ((q : Int) * (q : Int)))) = true := by rw [HR.out]; exact rem_eq (u * 4398046511104) q nl H5.out H6.out (by omega) HNL.out
      go_wp2
      go_ret
      exact ⟨rfl, Grown.refl _⟩

set_option maxRecDepth 100000 in
set_option maxHeartbeats 1000000 in
theorem law_small (u0 u a b : Nat) (hu0 : u0 < 4611686018427387904) (hor : bits .or .u64 (u0 : Int) 4611686018427387904 = (u : Int)) (hu1 : 4611686018427387904 ≤ u) (hu : u < 18446744073709551616) (ha : a ≤ 255) (hb : b ≤ 255) (w : World) :
    Calls Yba.prog 4 #[.int .u64 u0, .int .u8 a, .int .u8 b] w fun e w' => e = .returned (.bool true) ∧ Grown w w' := by
  have HU1 : Hid (4611686018427387904 ≤ u) := hu1
  have hd : decide ((u0 : Int) < 4611686018427387904) = true := decide_eq_true (by omega)
  clear hu1 hu0
  obtain ⟨nh, hnh⟩ : ∃ nh : Nat, nh = u / 4194304 := ⟨_, rfl⟩
  obtain ⟨nl, hnl⟩ : ∃ nl : Nat, nl = u * 4398046511104 % 18446744073709551616 := ⟨_, rfl⟩
  have ih : (u : Int) / 4194304 = (nh : Int) := by omega
  have il : IntKind.u64.wrap ((u : Int) * 4398046511104) = (nl : Int) := by rw [IntKind.wrap_u64]; omega
  have bh : nh < 18446744073709551616 := by omega
  have bl : nl < 18446744073709551616 := by omega
  have HW : Hid (nh * 18446744073709551616 + nl = u * 4398046511104) := by rw [hnh, hnl]; exact words u hu
  have HNL : Hid (nl = u * 4398046511104 % 18446744073709551616) := hnl
  clear hnh hnl
  go_enter Yba.func4, Yba.ntmps4
  go_wp2_with (first | (go_at_call 8; refine (isqrt_any u HU1.out hu _).mono ?_; rintro e w' ⟨⟨s0, rfl, h1, h2, h3, h4⟩, rfl⟩; have H1 : Hid (s0 * s0 ≤ u) := h1; have H2 : Hid (u < (s0 + 1) * (s0 + 1)) := h2; clear h1 h2) | (go_at_call 9; refine (sig_law u s0 a b HU1.out hu h3 h4 H1.out H2.out _).mono ?_; rintro e w' ⟨⟨q, r, rfl, hr, h5, h6⟩, rfl⟩; have HR : Hid (r = u * 4398046511104 - q * q) := hr; clear hr; have H5 : Hid (q * q ≤ u * 4398046511104) := h5; have H6 : Hid (u * 4398046511104 < (q + 1) * (q + 1)) := h6; clear h5 h6))
  go_loop [14, 15] (fun x y => ∃ lo hi : Nat, x = .int .u64 lo ∧ y = .int .u64 hi ∧ lo < hi ∧ hi ≤ 9007199254740992 ∧ Hid (lo * lo ≤ u * 4398046511104) ∧ Hid (u * 4398046511104 < hi * hi)) (fun x y => (intOf y).toNat - (intOf x).toNat)
  case atStart => exact ⟨0, 9007199254740992, rfl, rfl, by omega, by omega, Nat.zero_le _, by show _ < _; omega⟩
  case round =>
    obtain ⟨lo, hi, rfl, rfl, hlt, hh, hlo, hhi⟩ := hrel
    by_cases hg : 1 < hi - lo
    · obtain ⟨mid, hmid⟩ : ∃ mid : Nat, mid = lo + (hi - lo) / 2 := ⟨_, rfl⟩
      obtain ⟨m1, m2⟩ := mid_lt hg hmid
      have em : (lo : Int) + ((hi : Int) - (lo : Int)) / 2 = (mid : Int) := by omega
      have hgi : (1 : Int) < (hi : Int) - (lo : Int) := by omega
      clear hmid
      by_cases hc : mid * mid ≤ u * 4398046511104
      · have hB : leB mid nh nl = true := by unfold leB; rw [HW.out]; exact decide_eq_true hc
        have HC : Hid (mid * mid ≤ u * 4398046511104) := hc
        clear hc
        go_wp2_with (go_at_call 10; refine (le_any mid nh nl (by omega) bh bl _).mono ?_; rintro e w' ⟨rfl, rfl⟩)
        go_round
        case rel => exact ⟨mid, hi, rfl, rfl, m2, hh, HC, hhi⟩
        case measure => simp [intOf]; omega
      · have hB : leB mid nh nl = false := by unfold leB; rw [HW.out]; exact decide_eq_false hc
        have HC : Hid (u * 4398046511104 < mid * mid) := by show _ < _; omega
        clear hc
        go_wp2_with (go_at_call 10; refine (le_any mid nh nl (by omega) bh bl _).mono ?_; rintro e w' ⟨rfl, rfl⟩)
        go_round
        case rel => exact ⟨lo, mid, rfl, rfl, m1, by omega, hlo, HC⟩
        case measure => simp [intOf]; omega
    · have hgi : ¬ (1 : Int) < (hi : Int) - (lo : Int) := by omega
      obtain rfl : q = lo := root_unique (u * 4398046511104) q lo H5.out H6.out hlo.out (by have e : hi = lo + 1 := by omega
                                                                                            rw [e] at hhi; exact hhi.out)
      have hrem : ((r : Int) == IntKind.u64.wrap ((nl : Int) - IntKind.u64.wrap ((q : Int) * (q : Int)))) = true := by rw [HR.out]; exact rem_eq (u * 4398046511104) q nl H5.out H6.out (by omega) HNL.out
      go_wp2
      go_ret
      exact ⟨rfl, Grown.refl _⟩
end Go.Proofs.Ybulkdptw

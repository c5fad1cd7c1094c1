import Derived.Test.YbulkdptwMul
namespace Go.Proofs.Ybulkdptw
open Go.RowKit
set_option linter.unusedVariables false

theorem grown_trans {a b c : World} (h : Grown a b) (k : Grown b c) : Grown a c :=
  ⟨World.keptBut_trans h.1 k.1, fun x => (k.2.1 x).trans (h.2.1 x), Nat.le_trans h.2.2 k.2.2⟩

theorem mul128_any (x y : Nat) (hx : x < 18446744073709551616) (hy : y < 18446744073709551616) (w : World) :
    Calls Yba.prog 11 #[.int .u64 x, .int .u64 y] w fun e w' => e = .returned (.agg #[.int .u64 ((x * y / 18446744073709551616 : Nat) : Int), .int .u64 ((x * y % 18446744073709551616 : Nat) : Int)]) ∧ Grown w w' := by
  go_enter Yba.func11, Yba.ntmps11
  go_wp2_with (go_at_call 13; refine (mul64_nat x y hx hy _).mono ?_; rintro e w1 ⟨rfl, rfl⟩)
  refine bodyPost_ret (v := .agg #[.int .u64 ((x * y / 18446744073709551616 : Nat) : Int), .int .u64 ((x * y % 18446744073709551616 : Nat) : Int)]) (by simp [results, Yba.results11, go_sem]) rfl ⟨rfl, ?_⟩
  exact (Grown.refl _).alloc _ _

theorem or_zero (lo : Nat) (h : lo < 18446744073709551616) : bits .or .u64 (lo : Int) 0 = (lo : Int) := by
  have := bits_or_u64_nat lo 0 h (by omega)
  simpa using this

theorem wrap_top (hi : Nat) : IntKind.u64.wrap ((hi : Int) * 18446744073709551616) = 0 := by rw [IntKind.wrap_u64]; omega

theorem rsh_any (hi lo n : Nat) (h1 : hi < 18446744073709551616) (h2 : lo < 18446744073709551616) (hn' : n < 128) (w : World) :
    Calls Yba.prog 12 #[.agg #[.int .u64 hi, .int .u64 lo], .int .u64 n] w fun e w' => ∃ z, e = .returned (.agg #[.int .u64 z, .int .u64 (sh hi lo n)]) ∧ Grown w w' := by
  by_cases hn : 64 ≤ n
  · rw [sh, if_pos hn]
    go_enter Yba.func12, Yba.ntmps12
    go_wp2
    refine bodyPost_ret (v := .agg #[.int .u64 0, .int .u64 ((hi : Int) / 2 ^ (n - 64))]) (by simp [results, Yba.results12, go_sem]) rfl ⟨_, rfl, ?_⟩
    exact ((Grown.refl _).alloc _ _).alloc _ _
  · by_cases h0 : n = 0
    · subst h0
      rw [sh, if_neg hn, if_pos rfl]
      go_enter Yba.func12, Yba.ntmps12
      go_wp2
      refine bodyPost_ret (v := .agg #[.int .u64 hi, .int .u64 lo]) (by simp [results, Yba.results12, go_sem, wrap_top, or_zero lo h2]) rfl ⟨_, rfl, ?_⟩
      exact ((Grown.refl _).alloc _ _).alloc _ _
    · rw [sh, if_neg hn, if_neg h0]
      go_enter Yba.func12, Yba.ntmps12
      go_wp2
      refine bodyPost_ret (v := .agg #[.int .u64 ((hi : Int) / 2 ^ n), .int .u64 (bits .or .u64 ((lo : Int) / 2 ^ n) (IntKind.u64.wrap ((hi : Int) * 2 ^ (64 - n))))]) (by simp [results, Yba.results12, go_sem]) rfl ⟨_, rfl, ?_⟩
      exact ((Grown.refl _).alloc _ _).alloc _ _

theorem wrap_neg (k : Nat) (hk : 1 ≤ k) (hk' : k ≤ 9223372036854775808) : IntKind.u64.wrap (-IntKind.u64.wrap (-(k : Int))) = (k : Int) := by
  rw [IntKind.wrap_u64, IntKind.wrap_u64]; omega

theorem field34 (x y : Value) (w : World) : (Instr.field 34 (.agg #[x, y]) 1).run Yba.prog w = .ok y w := by
  simp [go_sem, Instr.field, asAgg]

theorem hi_lt (k b : Nat) (hk : k < 18446744073709551616) (hb : b < 18446744073709551616) : k * b / 18446744073709551616 < 18446744073709551616 := by
  have := Nat.mul_lt_mul'' hk hb
  omega

theorem shift_neg (k b n : Nat) (hk : 1 ≤ k) (hk' : k ≤ 9223372036854775808) (hb : b < 18446744073709551616) (hn : n < 128) (w : World) :
    Calls Yba.prog 7 #[.int .i64 (-(k : Int)), .int .u64 b, .int .u64 n] w fun e w' => e = .returned (.int .i64 (wrap64 (-wrap64 (sh ((k : Int) * b / 18446744073709551616) ((k : Int) * b % 18446744073709551616) n)))) ∧ Grown w w' := by
  have hw := wrap_neg k hk hk'
  have hfd := field34
  have hl := hi_lt k b (by omega) hb
  have hl' : k * b % 18446744073709551616 < 18446744073709551616 := by omega
  go_enter Yba.func7, Yba.ntmps7
  go_wp2_with (first | (go_at_call 11; refine (mul128_any k b (by omega) hb _).mono ?_; rintro e w1 ⟨rfl, hg1⟩) | (go_at_call 12; refine (rsh_any (k * b / 18446744073709551616) (k * b % 18446744073709551616) n hl hl' hn _).mono ?_; rintro e w2 ⟨z, rfl, hg2⟩))
  go_ret
  exact ⟨rfl, grown_trans hg1 hg2⟩

theorem wrap_pos (k : Nat) (hk' : k < 9223372036854775808) : IntKind.u64.wrap (k : Int) = (k : Int) := by
  rw [IntKind.wrap_u64]; omega

theorem shift_pos (k b n : Nat) (hk' : k < 9223372036854775808) (hb : b < 18446744073709551616) (hn : n < 128) (w : World) :
    Calls Yba.prog 7 #[.int .i64 (k : Int), .int .u64 b, .int .u64 n] w fun e w' => e = .returned (.int .i64 (wrap64 (sh ((k : Int) * b / 18446744073709551616) ((k : Int) * b % 18446744073709551616) n))) ∧ Grown w w' := by
  have hw := wrap_pos k hk'
  have hfd := field34
  have hl := hi_lt k b (by omega) hb
  have hl' : k * b % 18446744073709551616 < 18446744073709551616 := by omega
  go_enter Yba.func7, Yba.ntmps7
  go_wp2_with (first | (go_at_call 11; refine (mul128_any k b (by omega) hb _).mono ?_; rintro e w1 ⟨rfl, hg1⟩) | (go_at_call 12; refine (rsh_any (k * b / 18446744073709551616) (k * b % 18446744073709551616) n hl hl' hn _).mono ?_; rintro e w2 ⟨z, rfl, hg2⟩))
  go_ret
  exact ⟨rfl, grown_trans hg1 hg2⟩

theorem law_neg (k b n : Nat) (hk : 1 ≤ k) (hk' : k ≤ 9223372036854775808) (hb : b < 18446744073709551616) (hn : n < 18446744073709551616) (w : World) :
    Calls Yba.prog 3 #[.int .i64 (-(k : Int)), .int .u64 b, .int .u64 n] w fun e w' => e = .returned (.bool true) ∧ Grown w w' := by
  have hw := wrap_neg k hk hk'
  have hl := hi_lt k b (by omega) hb
  have hl' : k * b % 18446744073709551616 < 18446744073709551616 := by omega
  go_enter Yba.func3, Yba.ntmps3
  go_wp2_with (first | (go_at_call 5; refine (amul_any k b (by omega) hb _).mono ?_; rintro e w1 ⟨rfl, rfl⟩) | (go_at_call 6; refine (ashr_any (k * b / 18446744073709551616) (k * b % 18446744073709551616) (n % 128) hl hl' (by omega) _).mono ?_; rintro e w2 ⟨rfl, rfl⟩) | (go_at_call 7; refine (shift_neg k b (n % 128) hk hk' hb (by omega) _).mono ?_; rintro e w3 ⟨rfl, hg3⟩))
  go_ret
  exact ⟨rfl, hg3⟩

theorem law_pos (k b n : Nat) (hk' : k < 9223372036854775808) (hb : b < 18446744073709551616) (hn : n < 18446744073709551616) (w : World) :
    Calls Yba.prog 3 #[.int .i64 (k : Int), .int .u64 b, .int .u64 n] w fun e w' => e = .returned (.bool true) ∧ Grown w w' := by
  have hw := wrap_pos k hk'
  have hl := hi_lt k b (by omega) hb
  have hl' : k * b % 18446744073709551616 < 18446744073709551616 := by omega
  go_enter Yba.func3, Yba.ntmps3
  go_wp2_with (first | (go_at_call 5; refine (amul_any k b (by omega) hb _).mono ?_; rintro e w1 ⟨rfl, rfl⟩) | (go_at_call 6; refine (ashr_any (k * b / 18446744073709551616) (k * b % 18446744073709551616) (n % 128) hl hl' (by omega) _).mono ?_; rintro e w2 ⟨rfl, rfl⟩) | (go_at_call 7; refine (shift_pos k b (n % 128) hk' hb (by omega) _).mono ?_; rintro e w3 ⟨rfl, hg3⟩))
  go_ret
  exact ⟨rfl, hg3⟩
end Go.Proofs.Ybulkdptw

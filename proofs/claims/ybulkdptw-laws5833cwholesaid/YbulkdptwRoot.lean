import Derived.Test.YbulkdptwMul
import Derived.Test.YbulkdptwPlain
namespace Go.Proofs.Ybulkdptw
open Go.RowKit
set_option linter.unusedVariables false

theorem sq_any (m H L : Nat) (hm : m < 18446744073709551616) (h : H * 18446744073709551616 + L = m * m) (hL : L < 18446744073709551616) (w : World) :
    Calls Yba.prog 13 #[.int .u64 m, .int .u64 m] w fun e w' => e = .returned (.tuple #[.int .u64 (H : Int), .int .u64 (L : Int)]) ∧ w = w' := by
  refine (mul64_nat m m hm hm w).mono ?_
  rintro e w' ⟨rfl, rfl⟩
  have e1 : m * m / 18446744073709551616 = H := by omega
  have e2 : m * m % 18446744073709551616 = L := by omega
  rw [e1, e2]
  exact ⟨rfl, rfl⟩

theorem sq_small (m S : Nat) (hm : m < 18446744073709551616) (h : S = m * m) (hL : S < 18446744073709551616) (w : World) :
    Calls Yba.prog 13 #[.int .u64 m, .int .u64 m] w fun e w' => e = .returned (.tuple #[.int .u64 0, .int .u64 (S : Int)]) ∧ w = w' :=
  sq_any m 0 S hm (by rw [Nat.zero_mul, Nat.zero_add]; exact h) hL w

theorem mid_lt {lo hi mid : Nat} (h : 1 < hi - lo) (e : mid = lo + (hi - lo) / 2) : lo < mid ∧ mid < hi := by omega

set_option maxHeartbeats 1000000 in
theorem isqrt_any (u : Nat) (h1 : 4611686018427387904 ≤ u) (h2 : u < 18446744073709551616) (w : World) :
    Calls Yba.prog 8 #[.int .u64 u] w fun e w' => (∃ r : Nat, e = .returned (.int .u64 (r : Int)) ∧ r * r ≤ u ∧ u < (r + 1) * (r + 1) ∧ 2147483648 ≤ r ∧ r < 4294967296) ∧ w = w' := by
  go_enter Yba.func8, Yba.ntmps8
  go_wp2
  go_loop [3, 4] (fun a b => ∃ lo hi : Nat, a = .int .u64 lo ∧ b = .int .u64 hi ∧ lo < hi ∧ 2147483648 ≤ lo ∧ hi ≤ 4294967296 ∧ lo * lo ≤ u ∧ u < hi * hi) (fun a b => (intOf b).toNat - (intOf a).toNat)
  case atStart => exact ⟨2147483648, 4294967296, rfl, rfl, by omega, by omega, by omega, by omega, by omega⟩
  case round =>
    obtain ⟨lo, hi, rfl, rfl, hlt, hl, hh, hlo, hhi⟩ := hrel
    by_cases hg : 1 < hi - lo
    · obtain ⟨mid, hmid⟩ : ∃ mid : Nat, mid = lo + (hi - lo) / 2 := ⟨_, rfl⟩
      obtain ⟨m1, m2⟩ := mid_lt hg hmid
      have em : (lo : Int) + ((hi : Int) - (lo : Int)) / 2 = (mid : Int) := by omega
      have hgi : (1 : Int) < (hi : Int) - (lo : Int) := by omega
      have hsq : mid * mid < 18446744073709551616 := by
        have := Nat.mul_le_mul (show mid ≤ 4294967295 by omega) (show mid ≤ 4294967295 by omega); omega
      obtain ⟨S, hS⟩ : ∃ S, S = mid * mid := ⟨_, rfl⟩
      have HS : Hid (S = mid * mid) := hS
      rw [← hS] at hsq
      have HL : Hid (lo * lo ≤ u) := hlo
      have HH : Hid (u < hi * hi) := hhi
      clear hS hmid hlo hhi
      by_cases hc : S ≤ u
      · go_wp2_with (go_at_call 13; refine (sq_small mid S (by omega) HS.out hsq _).mono ?_; rintro e w' ⟨rfl, rfl⟩)
        go_round
        case rel => exact ⟨mid, hi, rfl, rfl, m2, by omega, hh, by rw [← HS.out]; exact hc, HH.out⟩
        case measure => simp [intOf]; omega
      · go_wp2_with (go_at_call 13; refine (sq_small mid S (by omega) HS.out hsq _).mono ?_; rintro e w' ⟨rfl, rfl⟩)
        go_round
        case rel => exact ⟨lo, mid, rfl, rfl, m1, hl, by omega, HL.out, by rw [← HS.out]; omega⟩
        case measure => simp [intOf]; omega
    · have hgi : ¬ (1 : Int) < (hi : Int) - (lo : Int) := by omega
      go_wp2
      go_ret
      obtain rfl : hi = lo + 1 := by omega
      exact ⟨⟨lo, rfl, hlo, hhi, hl, by omega⟩, rfl⟩
end Go.Proofs.Ybulkdptw

import Derived.Test.YbulkdptwRows
import Derived.WalkKit
import Derived.WalkSpells
import Derived.WalkLawsBesides
import Derived.ProofKit
import Derived.Lib.Mul64
import Derived.Laws.Bits64b
import Derived.Laws.ShiftsVarLaws
namespace Go.Proofs.Ybulkdptw
open Go.RowKit
set_option linter.unusedVariables false

namespace Mul64
theorem maskN (a : Nat) (ha : a < 18446744073709551616) : bits .and .u64 (a : Int) 4294967295 = ((a % 4294967296 : Nat) : Int) := by
  have h := bits_and_u64_nat a 4294967295 ha (by omega)
  have e : a &&& 4294967295 = a % 4294967296 := Nat.and_two_pow_sub_one_eq_mod a 32
  rw [e] at h
  exact h
theorem divN (a : Nat) : (a : Int) / 4294967296 = ((a / 4294967296 : Nat) : Int) := by omega
theorem mulK (a : Nat) : (a : Int) * 4294967296 = ((a * 4294967296 : Nat) : Int) := by omega
theorem mulN (a b : Nat) : (a : Int) * (b : Int) = ((a * b : Nat) : Int) := (Int.natCast_mul a b).symm
theorem addN (a b : Nat) : (a : Int) + (b : Int) = ((a + b : Nat) : Int) := (Int.natCast_add a b).symm
theorem wrapN (a : Nat) (ha : a < 18446744073709551616) : IntKind.u64.wrap (a : Int) = (a : Int) := by rw [IntKind.wrap_u64]; omega
theorem wrapM (a : Nat) : IntKind.u64.wrap (a : Int) = ((a % 18446744073709551616 : Nat) : Int) := by rw [IntKind.wrap_u64]; omega
end Mul64

set_option maxHeartbeats 1000000 in
/-- math/bits.Mul64 (after the shelf's own walk). -/
theorem mul64_nat (x y : Nat) (hx : x < 18446744073709551616) (hy : y < 18446744073709551616) (w : World) :
    Calls Yba.prog 13 #[.int .u64 x, .int .u64 y] w fun e w' => e = .returned (.tuple #[.int .u64 ((x * y / 18446744073709551616 : Nat) : Int), .int .u64 ((x * y % 18446744073709551616 : Nat) : Int)]) ∧ w = w' := by
  obtain ⟨bd, bt, bw, hhi⟩ := Lib.mul64_hi x y hx hy
  have ba := Lib.half_mul_le (a := x / 4294967296) (b := y / 4294967296) (by omega) (by omega)
  have bb := Lib.half_mul_le (a := x / 4294967296) (b := y % 4294967296) (by omega) (by omega)
  have bc := Lib.half_mul_le (a := x % 4294967296) (b := y / 4294967296) (by omega) (by omega)
  have ba' : x / 4294967296 * (y / 4294967296) < 18446744073709551616 := by omega
  have bb' : x / 4294967296 * (y % 4294967296) < 18446744073709551616 := by omega
  have bc' : x % 4294967296 * (y / 4294967296) < 18446744073709551616 := by omega
  have bh1 : x / 4294967296 * (y / 4294967296) + (x / 4294967296 * (y % 4294967296) + x % 4294967296 * (y % 4294967296) / 4294967296) / 4294967296 < 18446744073709551616 := by omega
  have bh : x / 4294967296 * (y / 4294967296) + (x / 4294967296 * (y % 4294967296) + x % 4294967296 * (y % 4294967296) / 4294967296) / 4294967296 + ((x / 4294967296 * (y % 4294967296) + x % 4294967296 * (y % 4294967296) / 4294967296) % 4294967296 + x % 4294967296 * (y / 4294967296)) / 4294967296 < 18446744073709551616 := by omega
  go_enter Yba.func13, Yba.ntmps13
  go_wp2
  simp only [Mul64.maskN x hx, Mul64.maskN y hy, Mul64.divN, Mul64.mulN, Mul64.addN, Mul64.wrapN _ bd, Mul64.wrapN _ bb', Mul64.wrapN _ bt, Mul64.maskN _ bt, Mul64.wrapN _ bc', Mul64.wrapN _ bw, Mul64.wrapN _ ba', Mul64.wrapN _ bh1, Mul64.wrapN _ bh, Mul64.wrapM (x * y)]
  rw [hhi]
  go_ret2
  exact ⟨rfl, rfl⟩

theorem or_parts (a b : Nat) (ha : a < 4294967296) (hb : b < 18446744073709551616) : a ||| (b * 4294967296 % 18446744073709551616) = a + (b % 4294967296) * 4294967296 := by
  have e : b * 4294967296 % 18446744073709551616 = 2 ^ 32 * (b % 4294967296) := by omega
  rw [e, Nat.or_comm, ← Nat.two_pow_add_eq_or_of_lt (show a < 2 ^ 32 from ha)]
  omega

/-- The school method's four products. -/
theorem amul_arith (x y : Nat) (hx : x < 18446744073709551616) (hy : y < 18446744073709551616) :
    (x % 4294967296) * (y % 4294967296) < 18446744073709551616 ∧ (x % 4294967296) * (y / 4294967296) < 18446744073709551616 ∧ (x / 4294967296) * (y % 4294967296) < 18446744073709551616 ∧ (x / 4294967296) * (y / 4294967296) < 18446744073709551616 ∧
    (x % 4294967296) * (y % 4294967296) / 4294967296 + (x % 4294967296) * (y / 4294967296) % 4294967296 < 18446744073709551616 ∧
    (x % 4294967296) * (y % 4294967296) / 4294967296 + (x % 4294967296) * (y / 4294967296) % 4294967296 + (x / 4294967296) * (y % 4294967296) % 4294967296 < 18446744073709551616 ∧
    (x / 4294967296) * (y / 4294967296) + (x % 4294967296) * (y / 4294967296) / 4294967296 < 18446744073709551616 ∧
    (x / 4294967296) * (y / 4294967296) + (x % 4294967296) * (y / 4294967296) / 4294967296 + (x / 4294967296) * (y % 4294967296) / 4294967296 < 18446744073709551616 ∧
    (x / 4294967296) * (y / 4294967296) + (x % 4294967296) * (y / 4294967296) / 4294967296 + (x / 4294967296) * (y % 4294967296) / 4294967296 + ((x % 4294967296) * (y % 4294967296) / 4294967296 + (x % 4294967296) * (y / 4294967296) % 4294967296 + (x / 4294967296) * (y % 4294967296) % 4294967296) / 4294967296 < 18446744073709551616 ∧
    (x / 4294967296) * (y / 4294967296) + (x % 4294967296) * (y / 4294967296) / 4294967296 + (x / 4294967296) * (y % 4294967296) / 4294967296 + ((x % 4294967296) * (y % 4294967296) / 4294967296 + (x % 4294967296) * (y / 4294967296) % 4294967296 + (x / 4294967296) * (y % 4294967296) % 4294967296) / 4294967296 = x * y / 18446744073709551616 ∧
    ((x % 4294967296) * (y % 4294967296) % 4294967296) + (((x % 4294967296) * (y % 4294967296) / 4294967296 + (x % 4294967296) * (y / 4294967296) % 4294967296 + (x / 4294967296) * (y % 4294967296) % 4294967296) % 4294967296) * 4294967296 = x * y % 18446744073709551616 := by
  have e : x * y = (x / 4294967296) * (y / 4294967296) * (4294967296 * 4294967296) + ((x / 4294967296) * (y % 4294967296) + (x % 4294967296) * (y / 4294967296)) * 4294967296 + (x % 4294967296) * (y % 4294967296) := by
    rw [← Lib.split_mul, Nat.div_add_mod' x 4294967296, Nat.div_add_mod' y 4294967296]
  have ha := Lib.half_mul_le (a := x / 4294967296) (b := y / 4294967296) (by omega) (by omega)
  have hb := Lib.half_mul_le (a := x / 4294967296) (b := y % 4294967296) (by omega) (by omega)
  have hc := Lib.half_mul_le (a := x % 4294967296) (b := y / 4294967296) (by omega) (by omega)
  have hd := Lib.half_mul_le (a := x % 4294967296) (b := y % 4294967296) (by omega) (by omega)
  have hp : x * y < 18446744073709551616 * 18446744073709551616 := Nat.mul_lt_mul'' hx hy
  rw [e] at hp
  rw [e]
  generalize (x / 4294967296) * (y / 4294967296) = a at *
  generalize (x / 4294967296) * (y % 4294967296) = b at *
  generalize (x % 4294967296) * (y / 4294967296) = c at *
  generalize (x % 4294967296) * (y % 4294967296) = d at *
  refine ⟨by omega, by omega, by omega, by omega, by omega, by omega, by omega, by omega, by omega, by omega, by omega⟩

set_option maxHeartbeats 1000000 in
theorem amul_any (x y : Nat) (hx : x < 18446744073709551616) (hy : y < 18446744073709551616) (w : World) :
    Calls Yba.prog 5 #[.int .u64 x, .int .u64 y] w fun e w' => e = .returned (.tuple #[.int .u64 ((x * y / 18446744073709551616 : Nat) : Int), .int .u64 ((x * y % 18446744073709551616 : Nat) : Int)]) ∧ w = w' := by
  obtain ⟨b00, b01, b10, b11, m1, m2, s1, s2, s3, hh, hl⟩ := amul_arith x y hx hy
  have hor := or_parts ((x % 4294967296) * (y % 4294967296) % 4294967296) _ (by omega) m2
  have hbo := bits_or_u64_nat ((x % 4294967296) * (y % 4294967296) % 4294967296) (((x % 4294967296) * (y % 4294967296) / 4294967296 + (x % 4294967296) * (y / 4294967296) % 4294967296 + (x / 4294967296) * (y % 4294967296) % 4294967296) * 4294967296 % 18446744073709551616) (by omega) (by omega)
  rw [hor, hl] at hbo
  have HBO : Hid (_) := hbo
  clear hbo hor
  go_enter Yba.func5, Yba.ntmps5
  go_wp2
  simp only [Mul64.maskN x hx, Mul64.maskN y hy, Mul64.divN, Mul64.mulN, Mul64.addN, Mul64.wrapN _ b00, Mul64.wrapN _ b01, Mul64.wrapN _ b10, Mul64.wrapN _ b11, Mul64.maskN _ b00, Mul64.maskN _ b01, Mul64.maskN _ b10, Mul64.wrapN _ m1, Mul64.wrapN _ m2, Mul64.wrapN _ s1, Mul64.wrapN _ s2, Mul64.wrapN _ s3, Mul64.mulK, Mul64.wrapM (_ * 4294967296)]
  rw [hh, HBO.out]
  go_ret2
  exact ⟨rfl, rfl⟩

/-- What is shifted out of two words. -/
def sh (hi lo : Int) (n : Nat) : Int := if 64 ≤ n then hi / 2 ^ (n - 64) else if n = 0 then lo else bits .or .u64 (lo / 2 ^ n) (IntKind.u64.wrap (hi * 2 ^ (64 - n)))

theorem ashr_any (hi lo n : Nat) (h1 : hi < 18446744073709551616) (h2 : lo < 18446744073709551616) (hn' : n < 128) (w : World) :
    Calls Yba.prog 6 #[.int .u64 hi, .int .u64 lo, .int .u64 n] w fun e w' => e = .returned (.int .u64 (sh hi lo n)) ∧ w = w' := by
  by_cases hn : 64 ≤ n
  · rw [sh, if_pos hn]
    go_enter Yba.func6, Yba.ntmps6
    go_wp2
    go_ret
    exact ⟨rfl, rfl⟩
  · by_cases h0 : n = 0
    · subst h0
      rw [sh, if_neg hn, if_pos rfl]
      go_enter Yba.func6, Yba.ntmps6
      go_wp2
      go_ret
      exact ⟨rfl, rfl⟩
    · rw [sh, if_neg hn, if_neg h0]
      go_enter Yba.func6, Yba.ntmps6
      go_wp2
      go_ret
      exact ⟨rfl, rfl⟩
end Go.Proofs.Ybulkdptw

import Derived.Test.YbulkdptwRoot
namespace Go.Proofs.Ybulkdptw
open Go.RowKit
set_option linter.unusedVariables false

/-- q*q against two words. -/
def leB (q nh nl : Nat) : Bool := decide (q * q ≤ nh * 18446744073709551616 + nl)

set_option maxHeartbeats 1000000 in
theorem le_any (q nh nl : Nat) (hq : q < 18446744073709551616) (hnh : nh < 18446744073709551616) (hnl : nl < 18446744073709551616) (w : World) :
    Calls Yba.prog 10 #[.int .u64 q, .int .u64 nh, .int .u64 nl] w fun e w' => e = .returned (.bool (leB q nh nl)) ∧ w = w' := by
  obtain ⟨H, hH⟩ : ∃ H, H = q * q / 18446744073709551616 := ⟨_, rfl⟩
  obtain ⟨L, hL⟩ : ∃ L, L = q * q % 18446744073709551616 := ⟨_, rfl⟩
  have HS : Hid (H * 18446744073709551616 + L = q * q) := by show _ = _; omega
  have hL' : L < 18446744073709551616 := by omega
  clear hH hL
  rcases Nat.lt_trichotomy H nh with h | h | h
  · rw [show leB q nh nl = true from by unfold leB; rw [← HS.out]; simp; omega]
    go_enter Yba.func10, Yba.ntmps10
    go_wp2_with (go_at_call 13; refine (sq_any q H L hq HS.out hL' _).mono ?_; rintro e w' ⟨rfl, rfl⟩)
    go_ret
    exact ⟨rfl, rfl⟩
  · subst h
    by_cases hc : L ≤ nl
    · rw [show leB q H nl = true from by unfold leB; rw [← HS.out]; simp; omega]
      go_enter Yba.func10, Yba.ntmps10
      go_wp2_with (go_at_call 13; refine (sq_any q H L hq HS.out hL' _).mono ?_; rintro e w' ⟨rfl, rfl⟩)
      go_ret
      exact ⟨rfl, rfl⟩
    · rw [show leB q H nl = false from by unfold leB; rw [← HS.out]; simp; omega]
      go_enter Yba.func10, Yba.ntmps10
      go_wp2_with (go_at_call 13; refine (sq_any q H L hq HS.out hL' _).mono ?_; rintro e w' ⟨rfl, rfl⟩)
      go_ret
      exact ⟨rfl, rfl⟩
  · rw [show leB q nh nl = false from by unfold leB; rw [← HS.out]; simp; omega]
    have hne : ((H : Int) == (nh : Int)) = false := by simp; omega
    have hdn : decide (H < nh) = false := decide_eq_false (by omega)
    go_enter Yba.func10, Yba.ntmps10
    go_wp2_with (go_at_call 13; refine (sq_any q H L hq HS.out hL' _).mono ?_; rintro e w' ⟨rfl, rfl⟩)
    go_ret
    exact ⟨rfl, rfl⟩

/-- What falls in every round. -/
def msr (r : Int) : Nat := if 9223372036854775808 ≤ r then (36893488147419103232 - r).toNat else r.toNat
theorem sqm (q : Nat) (h : 1 ≤ q) : ((q - 1 : Nat) : Int) * ((q - 1 : Nat) : Int) = (q : Int) * q - 2 * q + 1 := by
  obtain ⟨k, rfl⟩ : ∃ k, q = k + 1 := ⟨q - 1, by omega⟩
  simp only [Nat.add_sub_cancel, Int.natCast_add, Int.add_mul, Int.mul_add]
  omega
theorem sqp (q : Nat) : ((q + 1 : Nat) : Int) * ((q + 1 : Nat) : Int) = (q : Int) * q + 2 * q + 1 := by
  simp only [Int.natCast_add, Int.add_mul, Int.mul_add]
  omega

/-- The invariant. -/
def Inv (N : Nat) (q : Nat) (r : Int) : Prop :=
  ∃ R : Int, R = (N : Int) - (q : Int) * q ∧ q ≤ 18014398509481984 ∧ 1 ≤ q ∧ (0 ≤ R ∧ r = R ∨ R < 0 ∧ r = R + 18446744073709551616) ∧ -9223372036854775808 < R ∧ R < 9223372036854775808

theorem inv_start (N n q0 : Nat) (hn : n = N % 18446744073709551616) (hq : q0 ≤ 18014398509481984) (hq1 : 1 ≤ q0) (h1 : (q0 : Int) * q0 < N + 4611686018427387904) (h2 : (N : Int) < q0 * q0 + 4611686018427387904) :
    Inv N q0 (IntKind.u64.wrap ((n : Int) - IntKind.u64.wrap ((q0 : Int) * q0))) := by
  refine ⟨_, rfl, hq, hq1, ?_, by omega, by omega⟩
  rw [IntKind.wrap_u64, IntKind.wrap_u64, hn]
  omega
/-- What the invariant gives. -/
theorem inv_neg {N q : Nat} {r : Int} (h : Inv N q r) (hN : 4 ≤ N) (hn : (N : Int) < (q : Int) * q) :
    2 * (q : Int) < r ∧ 9223372036854775808 < r ∧ r < 18446744073709551616 ∧ q ≤ 18014398509481984 ∧ 3 ≤ q ∧ wrap64 r < 0 ∧ Inv N (q - 1) (IntKind.u64.wrap (r + (2 * ((q : Int) - 1) + 1))) ∧ msr (IntKind.u64.wrap (r + (2 * ((q : Int) - 1) + 1))) < msr r := by
  obtain ⟨R, hR, hq, hq1, hr, b1, b2⟩ := h
  have h3 : 3 ≤ q := by
    rcases Nat.lt_or_ge q 3 with h | h
    · have := Nat.mul_le_mul (show q ≤ 2 by omega) (show q ≤ 2 by omega)
      have e : ((q * q : Nat) : Int) = (q : Int) * q := by simp
      omega
    · exact h
  have hr' : r = R + 18446744073709551616 := by omega
  have hRn : R < 0 := by omega
  have es := sqm q hq1
  refine ⟨by omega, by omega, by omega, hq, h3, by unfold wrap64; omega, ⟨_, rfl, by omega, by omega, ?_, by rw [es]; omega, by rw [es]; omega⟩, ?_⟩
  · rw [es, IntKind.wrap_u64]; omega
  · rw [IntKind.wrap_u64]
    unfold msr
    split <;> split <;> omega
theorem inv_big {N q : Nat} {r : Int} (h : Inv N q r) (hN : N < 81129638414606681695789005144064) (hn : (q : Int) * q + 2 * q < N) :
    2 * (q : Int) < r ∧ r < 9223372036854775808 ∧ q ≤ 18014398509481983 ∧ 0 ≤ wrap64 r ∧ Inv N (q + 1) (r - (2 * ((q : Int) + 1) - 1)) ∧ msr (r - (2 * ((q : Int) + 1) - 1)) < msr r := by
  obtain ⟨R, hR, hq, hq1, hr, b1, b2⟩ := h
  have es := sqp q
  have h3 : q + 1 < 9007199254740992 := by
    refine sq_lt_iff ?_
    have e : (((q + 1) * (q + 1) : Nat) : Int) = ((q + 1 : Nat) : Int) * ((q + 1 : Nat) : Int) := by simp
    omega
  have hr' : r = R := by omega
  refine ⟨by omega, by omega, by omega, by unfold wrap64; omega, ⟨_, rfl, by omega, by omega, ?_, by rw [es]; omega, by rw [es]; omega⟩, ?_⟩
  · rw [es]; omega
  · unfold msr
    split <;> split <;> omega
theorem inv_end {N q : Nat} {r : Int} (h : Inv N q r) (h1 : (q : Int) * q ≤ N) (h2 : (N : Int) ≤ q * q + 2 * q) :
    r ≤ 2 * (q : Int) ∧ q ≤ 18014398509481984 ∧ r = ((N - q * q : Nat) : Int) ∧ q * q ≤ N ∧ N < (q + 1) * (q + 1) := by
  obtain ⟨R, hR, hq, hq1, hr, b1, b2⟩ := h
  have e : ((q * q : Nat) : Int) = (q : Int) * q := by simp
  have es := sqp q
  have e2 : (((q + 1) * (q + 1) : Nat) : Int) = ((q + 1 : Nat) : Int) * ((q + 1 : Nat) : Int) := by simp
  have h1' : q * q ≤ N := by omega
  exact ⟨by omega, hq, by omega, h1', by omega⟩

set_option maxHeartbeats 1000000 in
theorem exact_any (n q0 N : Nat) (hn : n = N % 18446744073709551616) (hN : 4 ≤ N) (hN' : N < 81129638414606681695789005144064) (hq : q0 ≤ 18014398509481984) (hq1 : 1 ≤ q0) (h1 : (q0 : Int) * q0 < N + 4611686018427387904) (h2 : (N : Int) < q0 * q0 + 4611686018427387904) (w : World) :
    Calls Yba.prog 14 #[.int .u64 n, .int .u64 q0] w fun e w' => (∃ q : Nat, e = .returned (.tuple #[.int .u64 (q : Int), .int .u64 ((N - q * q : Nat) : Int)]) ∧ q * q ≤ N ∧ N < (q + 1) * (q + 1)) ∧ w = w' := by
  have hst := inv_start N n q0 hn hq hq1 h1 h2
  have HST : Hid (Inv N q0 (IntKind.u64.wrap ((n : Int) - IntKind.u64.wrap ((q0 : Int) * q0)))) := hst
  clear hst hn h1 h2
  go_enter Yba.func14, Yba.ntmps14
  go_wp2
  go_loop [1, 6] (fun a b => ∃ q : Nat, ∃ r : Int, a = .int .u64 q ∧ b = .int .u64 r ∧ Inv N q r) (fun a b => msr (intOf b))
  case atStart => exact ⟨q0, _, rfl, rfl, HST.out⟩
  case round =>
    obtain ⟨q, r, rfl, rfl, hinv⟩ := hrel
    by_cases hneg : (N : Int) < (q : Int) * q
    · obtain ⟨g1, g2, g3, g4, g5, g6, g7, g8⟩ := inv_neg hinv hN hneg
      have G7 : Hid (Inv N (q - 1) (IntKind.u64.wrap (r + (2 * ((q : Int) - 1) + 1)))) := g7
      have G8 : Hid (msr (IntKind.u64.wrap (r + (2 * ((q : Int) - 1) + 1))) < msr r) := g8
      clear g7 g8 hinv hneg
      go_wp2
      go_round
      case rel => exact ⟨q - 1, _, by congr 1; omega, rfl, G7.out⟩
      case measure => simp [intOf]; exact G8.out
    · by_cases hbig : (q : Int) * q + 2 * q < N
      · obtain ⟨g1, g2, g3, g4, g7, g8⟩ := inv_big hinv hN' hbig
        have G7 : Hid (Inv N (q + 1) (r - (2 * ((q : Int) + 1) - 1))) := g7
        have G8 : Hid (msr (r - (2 * ((q : Int) + 1) - 1)) < msr r) := g8
        clear g7 g8 hinv hneg hbig
        go_wp2
        go_round
        case rel => exact ⟨q + 1, _, by congr 1, rfl, G7.out⟩
        case measure => simp [intOf]; exact G8.out
      · obtain ⟨g1, g2, g3, g4, g5⟩ := inv_end hinv (by omega) (by omega)
        have G3 : Hid (r = ((N - q * q : Nat) : Int)) := g3
        have G4 : Hid (q * q ≤ N ∧ N < (q + 1) * (q + 1)) := ⟨g4, g5⟩
        clear hinv hneg hbig g3 g4 g5
        go_wp2
        go_ret2
        exact ⟨⟨q, by rw [G3.out]; rfl, G4.out⟩, rfl⟩
end Go.Proofs.Ybulkdptw

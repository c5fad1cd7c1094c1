/- THE LAW'S OWN FUNCTION: no candidate. -/
import Derived.Test.YbulkdpsgFill
namespace Go.Proofs.Ybulkdpsg
open Go Go.RowKit
set_option linter.unusedVariables false

set_option maxRecDepth 100000 in
set_option maxHeartbeats 4000000 in
theorem law_zero (ad : Option Addr) (cap : Nat) (inv le : Nat) (sign : Int) (a b rf : Nat) (hinv : Rel inv inv) (hle : Rel le le) (w : World) (ne ls : Nat → Nat) (hv : Nat → Int) (C : Cs w ad 0 ne ls hv) :
    Calls Yba.prog 3 #[.slice ad 0 cap, .float .f64 inv, .float .f64 le, .int .i64 sign, .int .u64 (a : Int), .int .u64 (b : Int), .int .u64 (rf : Int)] w fun e w' => e = .returned (.bool true) ∧ Below w.heap.size w w' := by
  have mk25 : ∀ w : World, (Instr.makeSlice 25 (.int .i64 1) (.int .i64 1)).run Yba.prog w = .ok (.slice (some ⟨w.heap.size, 0, none⟩) 1 1) (w.alloc (.cells (madeCells #[.int .u64 0] 1) 28)) := fun w => run_make_row' (P := Yba.prog) 25 28 (.int .u64 0) 8 Yba.underlying25 Yba.info28 rfl .i64 .i64 1 (by omega) (by omega) w
  have mk26 : ∀ w : World, (Instr.makeSlice 26 (.int .i64 1) (.int .i64 1)).run Yba.prog w = .ok (.slice (some ⟨w.heap.size, 0, none⟩) 1 1) (w.alloc (.cells (madeCells #[.float .f64 0] 1) 23)) := fun w => run_make_row' (P := Yba.prog) 26 23 (.float .f64 0) 8 Yba.underlying26 Yba.info23 rfl .i64 .i64 1 (by omega) (by omega) w
  have mk27 : ∀ w : World, (Instr.makeSlice 27 (.int .i64 1) (.int .i64 1)).run Yba.prog w = .ok (.slice (some ⟨w.heap.size, 0, none⟩) 1 1) (w.alloc (.cells (madeCells #[.int .i32 0] 1) 21)) := fun w => run_make_row' (P := Yba.prog) 27 21 (.int .i32 0) 4 Yba.underlying27 Yba.info21 rfl .i64 .i64 1 (by omega) (by omega) w
  go_enter Yba.func3, Yba.ntmps3
  go_wp2
  go_loopw [19] (fun i wr => ∃ k : Nat, k ≤ 0 ∧ i = .int .i64 k ∧ Fill wr w.heap.size 1 k ne ls hv ∧ Below w.heap.size w wr ∧ wr.heap.size = w.heap.size + 3) (fun i _ => 0 - (intOf i).toNat)
  case atStart => exact ⟨0, Nat.zero_le _, rfl, Fill.made w 1 ne ls hv, Joins.below_alloc3 w _ _ _, by simp⟩
  case round =>
    obtain ⟨k, hk, rfl, F, bel, hsz⟩ := hrel
    obtain rfl : k = 0 := by omega
    obtain ⟨WS, hWS⟩ : ∃ WS, wr.alloc (.cells #[.float .f64 inv, .slice none 0 0, .int .i64 0, .int .i64 sign, .slice (some ⟨w.heap.size, 0, none⟩) 1 1, .slice (some ⟨w.heap.size + 1, 0, none⟩) 1 1, .float .f64 le, .slice (some ⟨w.heap.size + 1 + 1, 0, none⟩) 1 1, .int .i64 0] 36) = WS := ⟨_, rfl⟩
    have belS : Below wr.heap.size wr WS := by rw [← hWS]; exact Joins.below_alloc1 wr _
    have hS : Sc WS (w.heap.size + 3) w.heap.size (w.heap.size + 1) (w.heap.size + 1 + 1) 1 inv le sign 0 := by
      rw [← hWS, ← hsz]
      exact ⟨by rw [World.cell?_alloc_new]; rfl, by rw [World.cell?_alloc_new]; rfl, by rw [World.cell?_alloc_new]; rfl, by rw [World.cell?_alloc_new]; rfl, by rw [World.cell?_alloc_new]; rfl, by rw [World.cell?_alloc_new]; rfl, by rw [World.cell?_alloc_new]; rfl⟩
    have hC : ∀ j, j < 1 → Cd WS w.heap.size (w.heap.size + 1) (w.heap.size + 1 + 1) j ((fun j => if j < 0 then ne j else 0) j) ((fun j => if j < 0 then ls j else 0) j) ((fun j => if j < 0 then hv j else 0) j) := fun j hj => by
      refine ⟨cell_kept belS (F.n.cell hj), cell_kept belS (F.l.cell hj), cell_kept belS (F.h.cell hj), ?_, ?_⟩
      · exact (by decide : (0 : Nat) < 18446744073709551616)
      · exact (by decide : (0 : Nat) < 18446744073709551616)
    have T : Told WS (w.heap.size + 3) w.heap.size (w.heap.size + 1) (w.heap.size + 1 + 1) 1 inv le sign 0 0 0 (fun j => if j < 0 then ne j else 0) (fun j => if j < 0 then ls j else 0) (fun j => if j < 0 then hv j else 0) := ⟨hS, hC 0 (by decide), hC 0 (by decide), hC 0 (by decide)⟩
    obtain ⟨s1, s2, t1, t2, k5, k6a, k6b⟩ := calls_exist (w.heap.size + 3) w.heap.size (w.heap.size + 1) (w.heap.size + 1 + 1) 1 inv le sign 0 0 0 (fun j => if j < 0 then ne j else 0) (fun j => if j < 0 then ls j else 0) (fun j => if j < 0 then hv j else 0) hinv hle (by decide) (by decide) (by decide)
    have bels : Below w.heap.size w WS := bel.trans (belS.mono bel.size)
    have step : ∀ (r1 r2 q1 q2 : Nat) (_ : Rel r1 s1) (_ : Rel r2 s2) (_ : Rel q1 t1) (_ : Rel q2 t2), FloatKind.f64.format.order r1 q2 = FloatKind.f64.format.order s1 t2 ∧ FloatKind.f64.format.order r2 q1 = FloatKind.f64.format.order s2 t1 := fun r1 r2 q1 q2 h1 h2 h3 h4 => ⟨ord_rel h1 h4, ord_rel h2 h3⟩
    rcases hc1 : (FloatKind.f64.format.order s1 t2 == some .gt) with _ | _
    · rcases hc2 : (FloatKind.f64.format.order s2 t1 == some .lt) with _ | _
      · have hres : cmpF s1 s2 t1 t2 = 0 := by unfold cmpF; rw [hc1, hc2]; rfl
        rw [hres] at k5
        have h7 := bits7
        go_wp2_with (first
          | (go_at_call 5; refine (k5 _ T).mono ?_; rintro e w1 ⟨rfl, hb1⟩; have T1 := T.kept hb1; obtain ⟨q0, q3, q4, q5, q6, q7, q8⟩ := T1.sc)
          | (have doneA' := doneA; go_at_call 6; refine (k6b _ (T1.kept (Joins.below_draws _ _ _))).mono ?_; rintro e w' ⟨r1, r2, nb2, rfl, hr1, hr2, rfl⟩; obtain ⟨o1, o2⟩ := step p1 p2 r1 r2 hp1 hp2 hr1 hr2)
          | (go_at_call 6; refine (k6a _ T1).mono ?_; rintro e w' ⟨p1, p2, nb1, rfl, hp1, hp2, rfl⟩; have doneA : True := trivial))
        go_loopw [30] (fun i wr2 => ∃ k2 : Nat, k2 ≤ 0 ∧ i = .int .i64 k2 ∧ Below w1.heap.size w1 wr2) (fun i _ => 0 - (intOf i).toNat)
        case atStart => exact ⟨0, Nat.zero_le _, rfl, Joins.below_draws _ _ _⟩
        case round =>
          obtain ⟨k2, hk2, rfl, hb2⟩ := hrel
          obtain rfl : k2 = 0 := by omega
          clear T T1 hC hS k5 k6a k6b C F
          go_wp2
          go_ret
          exact ⟨rfl, bels.trans ((hb1.mono bels.size).trans (hb2.mono (Nat.le_trans bels.size hb1.size)))⟩
      · have hres : cmpF s1 s2 t1 t2 = -1 := by unfold cmpF; rw [hc1, hc2]; rfl
        rw [hres] at k5
        have h7 := bits7
        go_wp2_with (first
          | (go_at_call 5; refine (k5 _ T).mono ?_; rintro e w1 ⟨rfl, hb1⟩; have T1 := T.kept hb1; obtain ⟨q0, q3, q4, q5, q6, q7, q8⟩ := T1.sc)
          | (have doneA' := doneA; go_at_call 6; refine (k6b _ (T1.kept (Joins.below_draws _ _ _))).mono ?_; rintro e w' ⟨r1, r2, nb2, rfl, hr1, hr2, rfl⟩; obtain ⟨o1, o2⟩ := step p1 p2 r1 r2 hp1 hp2 hr1 hr2)
          | (go_at_call 6; refine (k6a _ T1).mono ?_; rintro e w' ⟨p1, p2, nb1, rfl, hp1, hp2, rfl⟩; have doneA : True := trivial))
        go_loopw [30] (fun i wr2 => ∃ k2 : Nat, k2 ≤ 0 ∧ i = .int .i64 k2 ∧ Below w1.heap.size w1 wr2) (fun i _ => 0 - (intOf i).toNat)
        case atStart => exact ⟨0, Nat.zero_le _, rfl, Joins.below_draws _ _ _⟩
        case round =>
          obtain ⟨k2, hk2, rfl, hb2⟩ := hrel
          obtain rfl : k2 = 0 := by omega
          clear T T1 hC hS k5 k6a k6b C F
          go_wp2
          go_ret
          exact ⟨rfl, bels.trans ((hb1.mono bels.size).trans (hb2.mono (Nat.le_trans bels.size hb1.size)))⟩
    · have hres : cmpF s1 s2 t1 t2 = 1 := by unfold cmpF; rw [hc1]; rfl
      rw [hres] at k5
      have h7 := bits7
      go_wp2_with (first
        | (go_at_call 5; refine (k5 _ T).mono ?_; rintro e w1 ⟨rfl, hb1⟩; have T1 := T.kept hb1; obtain ⟨q0, q3, q4, q5, q6, q7, q8⟩ := T1.sc)
        | (have doneA' := doneA; go_at_call 6; refine (k6b _ (T1.kept (Joins.below_draws _ _ _))).mono ?_; rintro e w' ⟨r1, r2, nb2, rfl, hr1, hr2, rfl⟩; obtain ⟨o1, o2⟩ := step p1 p2 r1 r2 hp1 hp2 hr1 hr2)
        | (go_at_call 6; refine (k6a _ T1).mono ?_; rintro e w' ⟨p1, p2, nb1, rfl, hp1, hp2, rfl⟩; have doneA : True := trivial))
      go_loopw [30] (fun i wr2 => ∃ k2 : Nat, k2 ≤ 0 ∧ i = .int .i64 k2 ∧ Below w1.heap.size w1 wr2) (fun i _ => 0 - (intOf i).toNat)
      case atStart => exact ⟨0, Nat.zero_le _, rfl, Joins.below_draws _ _ _⟩
      case round =>
        obtain ⟨k2, hk2, rfl, hb2⟩ := hrel
        obtain rfl : k2 = 0 := by omega
        clear T T1 hC hS k5 k6a k6b C F
        go_wp2
        go_ret
        exact ⟨rfl, bels.trans ((hb1.mono bels.size).trans (hb2.mono (Nat.le_trans bels.size hb1.size)))⟩

end Go.Proofs.Ybulkdpsg

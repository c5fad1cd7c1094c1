/- THE LAW'S OWN FUNCTION: candidates. -/
import Derived.Test.YbulkdpsgFill
namespace Go.Proofs.Ybulkdpsg
open Go Go.RowKit
set_option linter.unusedVariables false

set_option maxRecDepth 100000 in
set_option maxHeartbeats 4000000 in
theorem law_pos (ad : Option Addr) (n cap : Nat) (inv le : Nat) (sign : Int) (a b rf : Nat) (hinv : Rel inv inv) (hle : Rel le le) (w : World) (ne ls : Nat → Nat) (hv : Nat → Int) (C : Cs w ad n ne ls hv) (hn : 0 < n) (hn2 : n ≤ 1048576) :
    Calls Yba.prog 3 #[.slice ad n cap, .float .f64 inv, .float .f64 le, .int .i64 sign, .int .u64 (a : Int), .int .u64 (b : Int), .int .u64 (rf : Int)] w fun e w' => e = .returned (.bool true) ∧ Below w.heap.size w w' := by
  have mk25 : ∀ w : World, (Instr.makeSlice 25 (.int .i64 (n : Int)) (.int .i64 (n : Int))).run Yba.prog w = .ok (.slice (some ⟨w.heap.size, 0, none⟩) n n) (w.alloc (.cells (madeCells #[.int .u64 0] n) 28)) := fun w => run_make_row' (P := Yba.prog) 25 28 (.int .u64 0) 8 Yba.underlying25 Yba.info28 rfl .i64 .i64 n (by omega) (by omega) w
  have mk26 : ∀ w : World, (Instr.makeSlice 26 (.int .i64 (n : Int)) (.int .i64 (n : Int))).run Yba.prog w = .ok (.slice (some ⟨w.heap.size, 0, none⟩) n n) (w.alloc (.cells (madeCells #[.float .f64 0] n) 23)) := fun w => run_make_row' (P := Yba.prog) 26 23 (.float .f64 0) 8 Yba.underlying26 Yba.info23 rfl .i64 .i64 n (by omega) (by omega) w
  have mk27 : ∀ w : World, (Instr.makeSlice 27 (.int .i64 (n : Int)) (.int .i64 (n : Int))).run Yba.prog w = .ok (.slice (some ⟨w.heap.size, 0, none⟩) n n) (w.alloc (.cells (madeCells #[.int .i32 0] n) 21)) := fun w => run_make_row' (P := Yba.prog) 27 21 (.int .i32 0) 4 Yba.underlying27 Yba.info21 rfl .i64 .i64 n (by omega) (by omega) w
  have h1 : ¬ ((1048576 : Int) < (n : Int)) := by omega
  have h2 : ¬ ((n : Int) = 0) := by omega
  have ia_lt : a % n < n := Nat.mod_lt _ hn
  have ib_lt : b % n < n := Nat.mod_lt _ hn
  have ir_lt : rf % n < n := Nat.mod_lt _ hn
  have hA : wrap64 ((a : Int) % (n : Int)) = ((a % n : Nat) : Int) := by unfold wrap64; omega
  have hBi : wrap64 ((b : Int) % (n : Int)) = ((b % n : Nat) : Int) := by unfold wrap64; omega
  have hR : wrap64 ((rf : Int) % (n : Int)) = ((rf % n : Nat) : Int) := by unfold wrap64; omega
  generalize a % n = ia at *
  generalize b % n = ib at *
  generalize rf % n = ir at *
  go_enter Yba.func3, Yba.ntmps3
  go_wp2
  go_loopw [19] (fun i wr => ∃ k : Nat, k ≤ n ∧ i = .int .i64 k ∧ Fill wr w.heap.size n k ne ls hv ∧ Below w.heap.size w wr ∧ wr.heap.size = w.heap.size + 3) (fun i _ => n - (intOf i).toNat)
  case atStart => exact ⟨0, Nat.zero_le _, rfl, Fill.made w n ne ls hv, Joins.below_alloc3 w _ _ _, by simp⟩
  case round =>
    obtain ⟨k, hk, rfl, F, bel, hsz⟩ := hrel
    by_cases hlt : k < n
    · obtain ⟨b, off, rfl, hb, c1, c2, c3, -, -⟩ := C k hlt
      have x1 := (bel.cell (p := ⟨b, off + k * 3, none⟩) hb).trans c1
      have x2 := (bel.cell (p := ⟨b, off + k * 3 + 1, none⟩) hb).trans c2
      have x3 := (bel.cell (p := ⟨b, off + k * 3 + 2, none⟩) hb).trans c3
      have f1 := F.n.cell hlt
      have f2 := F.l.cell hlt
      have f3 := F.h.cell hlt
      have z1 := F.n.frozen k
      have z2 := F.l.frozen k
      have z3 := F.h.frozen k
      have g2 := (F.l.setOther (a := ⟨w.heap.size, k, none⟩) (by simp) (.int .u64 (ne k : Int)))
      have g3 := ((F.h.setOther (a := ⟨w.heap.size, k, none⟩) (by simp; omega) (.int .u64 (ne k : Int))).setOther (a := ⟨w.heap.size + 1, k, none⟩) (by simp) (.float .f64 (ls k)))
      have f2' := g2.cell hlt
      have z2' := g2.frozen k
      have f3' := g3.cell hlt
      have z3' := g3.frozen k
      have x2' : (wr.setCell ⟨w.heap.size, k, none⟩ (.int .u64 (ne k : Int))).cell? ⟨b, off + k * 3 + 1, none⟩ = some (.float .f64 (ls k)) := by
        rw [World.cell?_setCell_far _ _ _ _ (by show w.heap.size ≠ b; omega)]; exact x2
      have x3' : ((wr.setCell ⟨w.heap.size, k, none⟩ (.int .u64 (ne k : Int))).setCell ⟨w.heap.size + 1, k, none⟩ (.float .f64 (ls k))).cell? ⟨b, off + k * 3 + 2, none⟩ = some (.int .i32 (hv k)) := by
        rw [World.cell?_setCell_far _ _ _ _ (by show w.heap.size + 1 ≠ b; omega), World.cell?_setCell_far _ _ _ _ (by show w.heap.size ≠ b; omega)]; exact x3
      have sf := fun (a : Addr) (v : Nat) (m : Mode) (w : World) => run_store Yba.prog w a (.float .f64 v) m rfl
      simp only [if_neg (Nat.lt_irrefl k)] at f1 f2 f3 f2' f3'
      clear c1 c2 c3 g2 g3
      go_wp2
      go_roundw
      case rel => exact ⟨k + 1, by omega, by go_num, F.step, ((bel.setCell (Nat.le_refl _) _).setCell (by simp) _).setCell (by simp; omega) _, by simpa using hsz⟩
      case measure => simp [intOf]; omega
    · obtain rfl : k = n := by omega
      obtain ⟨WS, hWS⟩ : ∃ WS, wr.alloc (.cells #[.float .f64 inv, .slice none 0 0, .int .i64 0, .int .i64 sign, .slice (some ⟨w.heap.size, 0, none⟩) k k, .slice (some ⟨w.heap.size + 1, 0, none⟩) k k, .float .f64 le, .slice (some ⟨w.heap.size + 1 + 1, 0, none⟩) k k, .int .i64 (ir : Int)] 36) = WS := ⟨_, rfl⟩
      have belS : Below wr.heap.size wr WS := by rw [← hWS]; exact Joins.below_alloc1 wr _
      have hS : Sc WS (w.heap.size + 3) w.heap.size (w.heap.size + 1) (w.heap.size + 1 + 1) k inv le sign ir := by
        rw [← hWS, ← hsz]
        exact ⟨by rw [World.cell?_alloc_new]; rfl, by rw [World.cell?_alloc_new]; rfl, by rw [World.cell?_alloc_new]; rfl, by rw [World.cell?_alloc_new]; rfl, by rw [World.cell?_alloc_new]; rfl, by rw [World.cell?_alloc_new]; rfl, by rw [World.cell?_alloc_new]; rfl⟩
      have hC : ∀ j, j < k → Cd WS w.heap.size (w.heap.size + 1) (w.heap.size + 1 + 1) j ((fun j => if j < k then ne j else 0) j) ((fun j => if j < k then ls j else 0) j) ((fun j => if j < k then hv j else 0) j) := fun j hj => by
        refine ⟨cell_kept belS (F.n.cell hj), cell_kept belS (F.l.cell hj), cell_kept belS (F.h.cell hj), ?_, ?_⟩
        · show (if j < k then ne j else 0) < _
          rw [if_pos hj]; obtain ⟨_, _, _, _, _, _, _, h, _⟩ := C j hj; exact h
        · show (if j < k then ls j else 0) < _
          rw [if_pos hj]; obtain ⟨_, _, _, _, _, _, _, _, h⟩ := C j hj; exact h
      have T : Told WS (w.heap.size + 3) w.heap.size (w.heap.size + 1) (w.heap.size + 1 + 1) k inv le sign ia ib ir (fun j => if j < k then ne j else 0) (fun j => if j < k then ls j else 0) (fun j => if j < k then hv j else 0) := ⟨hS, hC ia ia_lt, hC ib ib_lt, hC ir ir_lt⟩
      obtain ⟨s1, s2, t1, t2, k5, k6a, k6b⟩ := calls_exist (w.heap.size + 3) w.heap.size (w.heap.size + 1) (w.heap.size + 1 + 1) k inv le sign ia ib ir (fun j => if j < k then ne j else 0) (fun j => if j < k then ls j else 0) (fun j => if j < k then hv j else 0) hinv hle ia_lt ib_lt ir_lt
      have bels : Below w.heap.size w WS := bel.trans (belS.mono bel.size)
      have step : ∀ (r1 r2 q1 q2 : Nat) (_ : Rel r1 s1) (_ : Rel r2 s2) (_ : Rel q1 t1) (_ : Rel q2 t2), FloatKind.f64.format.order r1 q2 = FloatKind.f64.format.order s1 t2 ∧ FloatKind.f64.format.order r2 q1 = FloatKind.f64.format.order s2 t1 := fun r1 r2 q1 q2 h1 h2 h3 h4 => ⟨ord_rel h1 h4, ord_rel h2 h3⟩
      rcases hc1 : (FloatKind.f64.format.order s1 t2 == some .gt) with _ | _
      · rcases hc2 : (FloatKind.f64.format.order s2 t1 == some .lt) with _ | _
        · have hres : cmpF s1 s2 t1 t2 = 0 := by unfold cmpF; rw [hc1, hc2]; rfl
          rw [hres] at k5
          have h7 := bits7
          go_wp2_with (first
            | (go_at_call 5; refine (k5 _ T).mono ?_; rintro e w1 ⟨rfl, hb1⟩; have T1 := T.kept hb1; obtain ⟨q0, q3, q4, q5, q6, q7, q8⟩ := T1.sc)
            | (have doneA' := doneA; go_at_call 6; refine (k6b _ (T1.kept (Joins.below_draws _ _ _))).mono ?_; rintro e w' ⟨r1, r2, nb2, rfl, hr1, hr2, rfl⟩; obtain ⟨o1, o2⟩ := step p1 p2 r1 r2 hp1 hp2 hr1 hr2)
            | (go_at_call 6; refine (k6a _ T1).mono ?_; rintro e w' ⟨p1, p2, nb1, rfl, hp1, hp2, rfl⟩; have doneA : True := trivial))
          go_loopw [30] (fun i wr2 => ∃ k2 : Nat, k2 ≤ k ∧ i = .int .i64 k2 ∧ Below w1.heap.size w1 wr2) (fun i _ => k - (intOf i).toNat)
          case atStart => exact ⟨0, Nat.zero_le _, rfl, Joins.below_draws _ _ _⟩
          case round =>
            obtain ⟨k2, hk2, rfl, hb2⟩ := hrel
            by_cases hlt2 : k2 < k
            · obtain ⟨cb, off, rfl, hcb, c1, c2, c3, -, -⟩ := C k2 hlt2
              have y1 := cell_kept hb2 (cell_kept hb1 (cell_kept bels c1))
              have y2 := cell_kept hb2 (cell_kept hb1 (cell_kept bels c2))
              have y3 := cell_kept hb2 (cell_kept hb1 (cell_kept bels c3))
              have e4 := cell_kept hb2 q4
              have e5 := cell_kept hb2 q5
              have e7 := cell_kept hb2 q7
              have v1 := cell_kept hb2 (cell_kept hb1 (hC k2 hlt2).n)
              have v2 := cell_kept hb2 (cell_kept hb1 (hC k2 hlt2).l)
              have v3 := cell_kept hb2 (cell_kept hb1 (hC k2 hlt2).h)
              simp only [if_pos hlt2] at v1 v2 v3
              clear c1 c2 c3 T T1 hC hS k5 k6a k6b C F
              go_wp2
              go_quiet (fail)
              go_wp2
              go_roundw
              case rel => exact ⟨k2 + 1, by omega, by go_num, hb2.trans (Joins.below_draws _ _ _)⟩
              case measure => simp [intOf]; omega
            · obtain rfl : k2 = k := by omega
              clear T T1 hC hS k5 k6a k6b C F
              go_wp2
              go_ret
              exact ⟨rfl, bels.trans ((hb1.mono bels.size).trans (hb2.mono (Nat.le_trans bels.size hb1.size)))⟩
        · have hres : cmpF s1 s2 t1 t2 = -1 := by unfold cmpF; rw [hc1, hc2]; rfl
          rw [hres] at k5
          have h7 := bits7
          go_wp2_with (first
            | (go_at_call 5; refine (k5 _ T).mono ?_; rintro e w1 ⟨rfl, hb1⟩; have T1 := T.kept hb1; obtain ⟨q0, q3, q4, q5, q6, q7, q8⟩ := T1.sc)
            | (have doneA' := doneA; go_at_call 6; refine (k6b _ (T1.kept (Joins.below_draws _ _ _))).mono ?_; rintro e w' ⟨r1, r2, nb2, rfl, hr1, hr2, rfl⟩; obtain ⟨o1, o2⟩ := step p1 p2 r1 r2 hp1 hp2 hr1 hr2)
            | (go_at_call 6; refine (k6a _ T1).mono ?_; rintro e w' ⟨p1, p2, nb1, rfl, hp1, hp2, rfl⟩; have doneA : True := trivial))
          go_loopw [30] (fun i wr2 => ∃ k2 : Nat, k2 ≤ k ∧ i = .int .i64 k2 ∧ Below w1.heap.size w1 wr2) (fun i _ => k - (intOf i).toNat)
          case atStart => exact ⟨0, Nat.zero_le _, rfl, Joins.below_draws _ _ _⟩
          case round =>
            obtain ⟨k2, hk2, rfl, hb2⟩ := hrel
            by_cases hlt2 : k2 < k
            · obtain ⟨cb, off, rfl, hcb, c1, c2, c3, -, -⟩ := C k2 hlt2
              have y1 := cell_kept hb2 (cell_kept hb1 (cell_kept bels c1))
              have y2 := cell_kept hb2 (cell_kept hb1 (cell_kept bels c2))
              have y3 := cell_kept hb2 (cell_kept hb1 (cell_kept bels c3))
              have e4 := cell_kept hb2 q4
              have e5 := cell_kept hb2 q5
              have e7 := cell_kept hb2 q7
              have v1 := cell_kept hb2 (cell_kept hb1 (hC k2 hlt2).n)
              have v2 := cell_kept hb2 (cell_kept hb1 (hC k2 hlt2).l)
              have v3 := cell_kept hb2 (cell_kept hb1 (hC k2 hlt2).h)
              simp only [if_pos hlt2] at v1 v2 v3
              clear c1 c2 c3 T T1 hC hS k5 k6a k6b C F
              go_wp2
              go_quiet (fail)
              go_wp2
              go_roundw
              case rel => exact ⟨k2 + 1, by omega, by go_num, hb2.trans (Joins.below_draws _ _ _)⟩
              case measure => simp [intOf]; omega
            · obtain rfl : k2 = k := by omega
              clear T T1 hC hS k5 k6a k6b C F
              go_wp2
              go_ret
              exact ⟨rfl, bels.trans ((hb1.mono bels.size).trans (hb2.mono (Nat.le_trans bels.size hb1.size)))⟩
      · have hres : cmpF s1 s2 t1 t2 = 1 := by unfold cmpF; rw [hc1]; rfl
        rw [hres] at k5
        have h7 := bits7
        go_wp2_with (first
          | (go_at_call 5; refine (k5 _ T).mono ?_; rintro e w1 ⟨rfl, hb1⟩; have T1 := T.kept hb1; obtain ⟨q0, q3, q4, q5, q6, q7, q8⟩ := T1.sc)
          | (have doneA' := doneA; go_at_call 6; refine (k6b _ (T1.kept (Joins.below_draws _ _ _))).mono ?_; rintro e w' ⟨r1, r2, nb2, rfl, hr1, hr2, rfl⟩; obtain ⟨o1, o2⟩ := step p1 p2 r1 r2 hp1 hp2 hr1 hr2)
          | (go_at_call 6; refine (k6a _ T1).mono ?_; rintro e w' ⟨p1, p2, nb1, rfl, hp1, hp2, rfl⟩; have doneA : True := trivial))
        go_loopw [30] (fun i wr2 => ∃ k2 : Nat, k2 ≤ k ∧ i = .int .i64 k2 ∧ Below w1.heap.size w1 wr2) (fun i _ => k - (intOf i).toNat)
        case atStart => exact ⟨0, Nat.zero_le _, rfl, Joins.below_draws _ _ _⟩
        case round =>
          obtain ⟨k2, hk2, rfl, hb2⟩ := hrel
          by_cases hlt2 : k2 < k
          · obtain ⟨cb, off, rfl, hcb, c1, c2, c3, -, -⟩ := C k2 hlt2
            have y1 := cell_kept hb2 (cell_kept hb1 (cell_kept bels c1))
            have y2 := cell_kept hb2 (cell_kept hb1 (cell_kept bels c2))
            have y3 := cell_kept hb2 (cell_kept hb1 (cell_kept bels c3))
            have e4 := cell_kept hb2 q4
            have e5 := cell_kept hb2 q5
            have e7 := cell_kept hb2 q7
            have v1 := cell_kept hb2 (cell_kept hb1 (hC k2 hlt2).n)
            have v2 := cell_kept hb2 (cell_kept hb1 (hC k2 hlt2).l)
            have v3 := cell_kept hb2 (cell_kept hb1 (hC k2 hlt2).h)
            simp only [if_pos hlt2] at v1 v2 v3
            clear c1 c2 c3 T T1 hC hS k5 k6a k6b C F
            go_wp2
            go_quiet (fail)
            go_wp2
            go_roundw
            case rel => exact ⟨k2 + 1, by omega, by go_num, hb2.trans (Joins.below_draws _ _ _)⟩
            case measure => simp [intOf]; omega
          · obtain rfl : k2 = k := by omega
            clear T T1 hC hS k5 k6a k6b C F
            go_wp2
            go_ret
            exact ⟨rfl, bels.trans ((hb1.mono bels.size).trans (hb2.mono (Nat.le_trans bels.size hb1.size)))⟩

end Go.Proofs.Ybulkdpsg

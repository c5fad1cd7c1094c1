/- S5830C: the law: the walk. -/
import Derived.Test.YbulkdpsgZ15
import Derived.Deep.RegionHeld
import Derived.Laws.EntriesVeiled
namespace Go.Proofs.Ybulkdpsg
open Go Go.RowKit Go.Sort Go.Proofs Go.Lib
set_option linter.unusedVariables false
set_option linter.unusedSimpArgs false
set_option maxRecDepth 100000 in
set_option maxHeartbeats 80000000 in
theorem law4 {X : Inp} (hX : InpOk X) (ad : Option Addr) (cap : Nat) (nj place nw slots cache pen : Nat) (tj td ta tk : Nat → Nat) (w : World) (T : Ts w ad X.n tj td ta tk) (b1 : nj < 256) (b2 : place < 256) (b3 : nw < 256) (b4 : slots < 256) (b5 : cache < 256) (b6 : pen < 65536)
  (x1 : X.nJ = 1 + nj % 4) (x2 : X.nW = 1 + nw % 4) (x3 : X.nS = 1 + slots % 3) (x4 : X.nC = cache % 4) (x5 : X.pd = pen % 20) (x6 : X.sticky = decide (place % 3 = 0)) (x7 : ∀ i, i < X.n → X.job i = tj i % X.nJ ∧ X.key i = tk i % 5 ∧ X.dur i = td i % 32 ∧ X.arr i = ta i % 64) :
    Calls Yba.prog 4 #[.slice ad X.n cap, .int .u8 (nj : Int), .int .u8 (place : Int), .int .u8 (nw : Int), .int .u8 (slots : Int), .int .u8 (cache : Int), .int .u16 (pen : Int)] w fun e w' => e = .returned (.bool true) ∧ Below w.heap.size w w' := by
  have mixed := mixedYba
  have hn := hX.b1
  have HX : Hid (InpOk X) := hX
  have HT : Hid (Ts w ad X.n tj td ta tk) := T
  have HX7 : Hid (∀ i, i < X.n → X.job i = tj i % X.nJ ∧ X.key i = tk i % 5 ∧ X.dur i = td i % 32 ∧ X.arr i = ta i % 64) := x7
  have h1 : decide ((X.n : Int) > 2048) = false := decide_eq_false (by omega)
  have HXX : Hid (X.nJ = 1 + nj % 4 ∧ X.nW = 1 + nw % 4 ∧ X.nS = 1 + slots % 3 ∧ X.nC = cache % 4 ∧ X.pd = pen % 20 ∧ X.sticky = decide (place % 3 = 0)) := ⟨x1, x2, x3, x4, x5, x6⟩
  clear x1 x2 x3 x4 x5 x6 x7 T hX
  go_enter Yba.func4, Yba.ntmps4
  go_upto_region 10 with fail
  obtain ⟨x1, x2, x3, x4, x5, x6⟩ := HXX.out
  have e1 : 1 + (nj : Int) % 4 = (X.nJ : Int) := by omega
  have e2 : 1 + (nw : Int) % 4 = (X.nW : Int) := by omega
  have e3 : 1 + (slots : Int) % 3 = (X.nS : Int) := by omega
  have e4 : (cache : Int) % 4 = (X.nC : Int) := by omega
  have e5 : (pen : Int) % 20 = (X.pd : Int) := by omega
  have e6 : (place : Int) % 3 = ((place % 3 : Nat) : Int) := by omega
  have hp3 : place % 3 < 3 := by omega
  have HXS : Hid (X.sticky = decide (place % 3 = 0)) := x6
  simp only [e1, e2, e3, e4, e5, e6]
  clear b1 b2 b3 b4 b5 b6 x1 x2 x3 x4 x5 x6 e1 e2 e3 e4 e5 e6 h1 HXX
  generalize hplc : place % 3 = plc
  rw [hplc] at hp3 HXS
  clear hplc
  have hJ4 : X.nJ ≤ 4 := HX.out.b4.2
  have hW4 : X.nW ≤ 4 := HX.out.b2.2
  obtain ⟨B, hB⟩ : ∃ b, w.heap.size = b := ⟨_, rfl⟩
  have HB : Hid (w.heap.size = B) := hB
  have m46 := mk46 X.nJ (by omega)
  obtain ⟨W0, hW0⟩ : ∃ Y, w.alloc (.cells (madeCells #[.string ⟨#[]⟩] X.nJ) 9) = Y := ⟨_, rfl⟩
  have HW0 : Hid (W0.rowIs B 9 X.nJ (fun _ => .string ⟨#[]⟩) ∧ Fr [] w W0 ∧ W0.heap.size = B + 1) := by rw [← hW0, ← hB]; exact ⟨World.rowIs_made w _ _ _, Fr.alloc _ _ _, by simp⟩
  go_upto_block 0 with fail
  clear m46 hW0 hB
  go_cut [23] from 102 to 111 (fun v wx => ∃ x, v = .int .i64 x ∧ Hid (wx.rowIs B 9 X.nJ (fun j => .string (jobB j)) ∧ Fr [] w wx ∧ wx.heap.size = B + 1))
  case first => 
    go_wp2_with fail
    go_loopg [23] X.nJ (fun g v wr => ∃ j : Nat, v = .int .i64 (j : Int) ∧ j ≤ X.nJ ∧ Hid (g = X.nJ - j ∧ wr.rowIs B 9 X.nJ (fun p => if p < j then .string (jobB p) else .string ⟨#[]⟩) ∧ Fr [] w wr ∧ wr.heap.size = B + 1))
    case atStart => exact ⟨0, rfl, Nat.zero_le _, by omega, HW0.out.1.congr (fun p hp => by rw [if_neg (by omega)]), HW0.out.2.1, HW0.out.2.2⟩
    case round =>
      clear HW0
      obtain ⟨j, rfl, hj, HR⟩ := hrel
      by_cases hlt : j < X.nJ
      · have zi : (j : Int) < (X.nJ : Int) := by omega
        have c : wr.cell? ⟨B, j, none⟩ = some (.string ⟨#[]⟩) := by have := HR.out.2.1.cell hlt; rw [this, if_neg (by omega)]
        have f := HR.out.2.1.frozen j
        have hj8 := job8 j (by omega) wr
        obtain ⟨W1, hW1⟩ : ∃ Y, wr.setCell ⟨B, j, none⟩ (.string (jobB j)) = Y := ⟨_, rfl⟩
        have HW1 : Hid (W1.rowIs B 9 X.nJ (fun p => if p < j + 1 then .string (jobB p) else .string ⟨#[]⟩) ∧ Fr [] w W1 ∧ W1.heap.size = B + 1) := by
          rw [← hW1]
          refine ⟨(HR.out.2.1.set j _).congr fun p hp => ?_, fr_upd HR.out.2.2.1 (by rw [HB.out]; exact Nat.le_refl _) _, by simp [World.setCell]; exact HR.out.2.2.2⟩
          by_cases e : p = j
          · subst e; rw [if_pos rfl, if_pos (by omega)]
          · rw [if_neg e]
            by_cases e2 : p < j
            · rw [if_pos e2, if_pos (by omega)]
            · rw [if_neg e2, if_neg (by omega)]
        go_wp2_with (first | (go_at_call 8; refine hj8.mono ?_; clear hj8; rintro e w1 ⟨rfl, rfl⟩))
        go_roundg (X.nJ - (j + 1))
        case measure => have := HR.out.1; omega
        case rel => exact ⟨j + 1, rfl, by omega, rfl, HW1.out⟩
      · have zi : ¬ (j : Int) < (X.nJ : Int) := by omega
        have HE : Hid (j = X.nJ) := by show j = X.nJ; omega
        go_wp2
        go_meet
        have h := HR.out.2
        rw [HE.out] at h
        exact ⟨_, rfl, h.1.congr (fun p hp => by rw [if_pos hp]), h.2.1, h.2.2⟩
  case rest =>
  clear HW0
  obtain ⟨x23, rfl, HA⟩ := hcut
  have m48 := mk48 X.n (by omega)
  have m49 := mk49 X.n (by omega)
  have m50 := mk50 X.n (by omega)
  have hz0 := HA.out.2.2
  obtain ⟨A1, hA1⟩ : ∃ Y, wc.alloc (.cells (madeCells #[.int .i64 0] X.n) 3) = Y := ⟨_, rfl⟩
  obtain ⟨A2, hA2⟩ : ∃ Y, A1.alloc (.cells (madeCells #[.int .i64 0] X.n) 3) = Y := ⟨_, rfl⟩
  obtain ⟨A3, hA3⟩ : ∃ Y, A2.alloc (.cells (madeCells #[.int .i64 0] X.n) 44) = Y := ⟨_, rfl⟩
  obtain ⟨A4, hA4⟩ : ∃ Y, A3.alloc (.cells (madeCells #[.int .i64 0] X.n) 44) = Y := ⟨_, rfl⟩
  obtain ⟨A5, hA5⟩ : ∃ Y, A4.alloc (.cells (madeCells z54 (X.n * 4)) 54) = Y := ⟨_, rfl⟩
  have hz1 : A1.heap.size = B + 2 := by rw [← hA1]; simp [hz0]
  have hz2 : A2.heap.size = B + 3 := by rw [← hA2]; simp [hz1]
  have hz3 : A3.heap.size = B + 4 := by rw [← hA3]; simp [hz2]
  have hz4 : A4.heap.size = B + 5 := by rw [← hA4]; simp [hz3]
  have hz5 : A5.heap.size = B + 6 := by rw [← hA5]; simp [hz4]
  have HP0 : Hid (Pr X w A5 B 0) := by
    have f1 : Fr [] wc A1 := by rw [← hA1]; exact Fr.alloc _ _ _
    have f2 : Fr [] A1 A2 := by rw [← hA2]; exact Fr.alloc _ _ _
    have f3 : Fr [] A2 A3 := by rw [← hA3]; exact Fr.alloc _ _ _
    have f4 : Fr [] A3 A4 := by rw [← hA4]; exact Fr.alloc _ _ _
    have f5 : Fr [] A4 A5 := by rw [← hA5]; exact Fr.alloc _ _ _
    have r1 := World.rowIs_made wc (.int .i64 0) X.n 3
    have r2 := World.rowIs_made A1 (.int .i64 0) X.n 3
    have r3 := World.rowIs_made A2 (.int .i64 0) X.n 44
    have r4 := World.rowIs_made A3 (.int .i64 0) X.n 44
    have r5 := rowIs_madeK A4 z54 (X.n * 4) 54
    rw [hA1, hz0] at r1
    rw [hA2, hz1] at r2
    rw [hA3, hz2] at r3
    rw [hA4, hz3] at r4
    rw [hA5, hz4] at r5
    have g4 := f4.trans f5
    have g3 := f3.trans g4
    have g2 := f2.trans g3
    have g1 := f1.trans g2
    exact ⟨HA.out.2.1.trans g1, HB.out, by omega, g1.row HA.out.1 (by simp), upto_made (g2.row r1 (by simp)), upto_made (g3.row r2 (by simp)), upto_made (g4.row r3 (by simp)), upto_made (f5.row r4 (by simp)), r5.congr fun c hc => by unfold tkU; rw [if_neg (by omega)]; rfl⟩
  go_upto_block 2 with fail
  clear m48 m49 m50 hA1 hA2 hA3 hA4 hA5 hz0 hz1 hz2 hz3 hz4 hz5 HA
  go_cut [29, 30] from 124 to 179 (fun v v2 wx => Hid (Pr X w wx B X.n))
  case first => 
    have HW : Hid (w.heap.size = B) := HB
    have aE := agg52
    have zE := size52
    have aE2 := agg54
    have zE2 := size54
    have hJ0 : ¬ (X.nJ : Int) = 0 := by have := HX.out.b4.1; omega
    go_wp2_with fail
    go_loopg [124, 29, 30] X.n (fun g v _ _ wr => ∃ i : Nat, v = .int .i64 (i : Int) ∧ i ≤ X.n ∧ Hid (g = X.n - i ∧ Pr X w wr B i))
    case atStart => exact ⟨0, rfl, Nat.zero_le _, by omega, HP0.out⟩
    case round =>
      clear HP0
      obtain ⟨i, rfl, hi, HR⟩ := hrel
      by_cases hlt : i < X.n
      · have zi : (i : Int) < (X.n : Int) := by omega
        obtain ⟨b, off, had, hbl, s0, s1, s2, s3, t0, t1, t2, t3⟩ := HT.out i hlt
        have hsub := HT
        subst had
        have P := HR.out.2
        have s0 := P.fr.cell s0 (by simp)
        have s1 := P.fr.cell s1 (by simp)
        have s2 := P.fr.cell s2 (by simp)
        have s3 := P.fr.cell s3 (by simp)
        obtain ⟨zz, hzz⟩ : ∃ z, wr.heap.size = z := ⟨_, rfl⟩
        obtain ⟨W4, hW4⟩ : ∃ Y, wr.alloc (.cells #[.int .u8 0, .int .u16 0, .int .u16 0, .int .u8 0] 52) = Y := ⟨_, rfl⟩
        have r4 := World.rowIs_alloc wr #[.int .u8 0, .int .u16 0, .int .u16 0, .int .u8 0] 52 (fun c => (#[.int .u8 0, .int .u16 0, .int .u16 0, .int .u8 0] : Array Value)[c]!) (fun c hc => by rcases (show c = 0 ∨ c = 1 ∨ c = 2 ∨ c = 3 by simp at hc; omega) with rfl | rfl | rfl | rfl <;> rfl)
        rw [hW4, hzz] at r4
        have c40 := r4.cell (i := 0) (by simp)
        have c41 := r4.cell (i := 1) (by simp)
        have c42 := r4.cell (i := 2) (by simp)
        have c43 := r4.cell (i := 3) (by simp)
        have f40 := r4.frozen 0
        have f41 := r4.frozen 1
        have f42 := r4.frozen 2
        have f43 := r4.frozen 3
        have HR4 : Hid (W4.rowIs zz 52 4 (fun c => (#[.int .u8 0, .int .u16 0, .int .u16 0, .int .u8 0] : Array Value)[c]!)) := r4
        have HZZ : Hid (wr.heap.size = zz) := hzz
        clear P r4 hsub
        go_upto_region 23 with fail
        obtain ⟨W5, hW5⟩ : ∃ Y, Y = (((W4.setCell ⟨zz, 0, none⟩ (.int .u8 (tj i : Int))).setCell ⟨zz, 1, none⟩ (.int .u16 (td i : Int))).setCell ⟨zz, 2, none⟩ (.int .u16 (ta i : Int))).setCell ⟨zz, 3, none⟩ (.int .u8 (tk i : Int)) := ⟨_, rfl⟩
        rw [← hW5]
        have f45 : Fr [zz] W4 W5 := by rw [hW5]; exact (((Fr.setCell _ _ _ (by simp)).trans (Fr.setCell _ _ _ (by simp))).trans (Fr.setCell _ _ _ (by simp))).trans (Fr.setCell _ _ _ (by simp))
        have f5 : Fr [] wr W5 := fr_new (by rw [← hW4]; exact Fr.alloc _ _ _) f45 (by omega)
        have r5 : W5.rowIs zz 52 4 (fun c => if c = 3 then .int .u8 (tk i : Int) else if c = 2 then .int .u16 (ta i : Int) else if c = 1 then .int .u16 (td i : Int) else if c = 0 then .int .u8 (tj i : Int) else (#[.int .u8 0, .int .u16 0, .int .u16 0, .int .u8 0] : Array Value)[c]!) := by rw [hW5]; exact (((HR4.out.set 0 _).set 1 _).set 2 _).set 3 _
        have P := HR.out.2.kept f5
        have hx7 := HX7.out i hlt
        have y1 : (tj i : Int) % (X.nJ : Int) = (X.job i : Int) := by rw [hx7.1]; omega
        have y2 : (tk i : Int) % 5 = (X.key i : Int) := by rw [hx7.2.1]; omega
        have y3 : (td i : Int) % 32 = (X.dur i : Int) := by rw [hx7.2.2.1]; omega
        have y4 : (ta i : Int) % 64 = (X.arr i : Int) := by rw [hx7.2.2.2]; omega
        have hkx := HX.out.k i hlt
        have hzB : B + 6 ≤ zz := by have := HR.out.2.sz; have := HZZ.out; omega
        obtain ⟨W6, hW6⟩ : ∃ Y, W5.setCell ⟨B + 1, i, none⟩ (.int .i64 (X.job i : Int)) = Y := ⟨_, rfl⟩
        obtain ⟨W7, hW7⟩ : ∃ Y, W6.setCell ⟨B + 2, i, none⟩ (.int .i64 (X.key i : Int)) = Y := ⟨_, rfl⟩
        obtain ⟨W8, hW8⟩ : ∃ Y, W7.setCell ⟨B + 3, i, none⟩ (.int .i64 (X.dur i : Int)) = Y := ⟨_, rfl⟩
        obtain ⟨W9, hW9⟩ : ∃ Y, W8.setCell ⟨B + 4, i, none⟩ (.int .i64 (X.arr i : Int)) = Y := ⟨_, rfl⟩
        have P4 := P.four (i := i) (rfl : (X.job i : Int) = _) (rfl : (X.key i : Int) = _) (rfl : (X.dur i : Int) = _) (rfl : (X.arr i : Int) = _)
        rw [hW6, hW7, hW8, hW9] at P4
        have r6 := so (c := B + 1) (i := i) r5 (by omega) (.int .i64 (X.job i : Int))
        rw [hW6] at r6
        have r7 := so (c := B + 2) (i := i) r6 (by omega) (.int .i64 (X.key i : Int))
        rw [hW7] at r7
        have r8 := so (c := B + 3) (i := i) r7 (by omega) (.int .i64 (X.dur i : Int))
        rw [hW8] at r8
        have k0 : W5.cell? ⟨zz, 0, none⟩ = some (.int .u8 (tj i : Int)) := r5.cell (i := 0) (by omega)
        have k1 : W6.cell? ⟨zz, 3, none⟩ = some (.int .u8 (tk i : Int)) := r6.cell (i := 3) (by omega)
        have k2 : W7.cell? ⟨zz, 1, none⟩ = some (.int .u16 (td i : Int)) := r7.cell (i := 1) (by omega)
        have k3 : W8.cell? ⟨zz, 2, none⟩ = some (.int .u16 (ta i : Int)) := r8.cell (i := 2) (by omega)
        have j5 := P.j
        have q6 : W6.rowIs (B + 2) 3 X.n (upto i X.key) := by rw [← hW6]; exact so P.k (by omega) _
        have q7 : W7.rowIs (B + 3) 44 X.n (upto i X.dur) := by rw [← hW7, ← hW6]; exact (so P.d (by omega) _).so (by omega) _
        have q8 : W8.rowIs (B + 4) 44 X.n (upto i X.arr) := by rw [← hW8, ← hW7, ← hW6]; exact ((so P.a (by omega) _).so (by omega) _).so (by omega) _
        have d1 := j5.cell hlt
        have d2 := q6.cell hlt
        have d3 := q7.cell hlt
        have d4 := q8.cell hlt
        have g1 := j5.frozen i
        have g2 := q6.frozen i
        have g3 := q7.frozen i
        have g4 := q8.frozen i
        have HP4 : Hid (Pr4 X w W9 B i) := P4
        have c1 : W9.cell? ⟨B + 1, i, none⟩ = some (.int .i64 (X.job i : Int)) := by have := P4.j.cell hlt; rw [this]; unfold upto; rw [if_pos (by omega)]
        have c2 : W9.cell? ⟨B + 2, i, none⟩ = some (.int .i64 (X.key i : Int)) := by have := P4.k.cell hlt; rw [this]; unfold upto; rw [if_pos (by omega)]
        have c3 : W9.cell? ⟨B + 3, i, none⟩ = some (.int .i64 (X.dur i : Int)) := by have := P4.d.cell hlt; rw [this]; unfold upto; rw [if_pos (by omega)]
        have c4 : W9.cell? ⟨B + 4, i, none⟩ = some (.int .i64 (X.arr i : Int)) := by have := P4.a.cell hlt; rw [this]; unfold upto; rw [if_pos (by omega)]
        have v0 := P4.t.cell (i := i * 4) (by omega)
        have v1 := P4.t.cell (i := i * 4 + 1) (by omega)
        have v2 := P4.t.cell (i := i * 4 + 2) (by omega)
        have v3 := P4.t.cell (i := i * 4 + 3) (by omega)
        have n0 := P4.t.frozen (i * 4)
        have n1 := P4.t.frozen (i * 4 + 1)
        have n2 := P4.t.frozen (i * 4 + 2)
        have n3 := P4.t.frozen (i * 4 + 3)
        have hk9 : ∀ ww, Calls Yba.prog 9 #[.int .i64 (X.key i : Int)] ww fun e w' => e = .returned (.string (keyB (X.key i))) ∧ ww = w' := fun ww => key9 _ hkx.2.1 ww
        clear P P4 r5 r6 r7 r8 q6 q7 q8 j5 f45 f5 hx7 hW5 c40 c41 c42 c43 f40 f41 f42 f43 hW4 hkx hzz s0 s1 s2 s3 HR4
        go_upto_region 27 with fail
        clear d1 d2 d3 d4 g1 g2 g3 g4 hW6 hW7 hW8 hW9 k0 k1 k2 k3 y1 y2 y3 y4
        go_region_held (fun w' => w'.cell? ⟨B + 1, i, none⟩ = some (.int .i64 (X.job i : Int)) ∧ w'.cell? ⟨B + 2, i, none⟩ = some (.int .i64 (X.key i : Int)) ∧ w'.cell? ⟨B + 3, i, none⟩ = some (.int .i64 (X.dur i : Int)) ∧ w'.cell? ⟨B + 4, i, none⟩ = some (.int .i64 (X.arr i : Int))) (go_keep) (first | (go_at_call 9; refine (hk9 _).mono ?_; rintro e w1 ⟨rfl, rfl⟩))
        go_wp2_with fail
        go_roundg (X.n - (i + 1))
        case measure => have := HR.out.1; omega
        case rel => exact ⟨i + 1, rfl, by omega, rfl, (HP4.out.last hlt).kept (Fr.drewN [] _ 1)⟩
      · have zi : ¬ (i : Int) < (X.n : Int) := by omega
        have HE : Hid (i = X.n) := by show i = X.n; omega
        go_wp2
        go_meet
        have h := HR.out.2
        rw [HE.out] at h
        exact h
  case rest =>
  clear HP0
  have HP : Hid (Pr X w wc B X.n) := hcut
  clear hcut
  have aE57 := agg57
  have zE57 := size57
  have aE60 := agg60
  have zE60 := size60
  have aE67 := agg67
  have zE67 := size67
  obtain ⟨L, hL⟩ : ∃ l, wc.heap.size = l := ⟨_, rfl⟩
  obtain ⟨C1, hC1⟩ : ∃ Y, wc.alloc (.cells #[.slice (some ⟨B, 0, none⟩) X.nJ X.nJ, .slice (some ⟨B + 5, 0, none⟩) X.n X.n] 57) = Y := ⟨_, rfl⟩
  obtain ⟨C2, hC2⟩ : ∃ Y, C1.alloc (.cells #[.slice none 0 0, .slice none 0 0, .int .i64 0, .int .i64 0, .int .i64 0, .int .i64 0, .int .i64 0, .bool false] 60) = Y := ⟨_, rfl⟩
  obtain ⟨C3, hC3⟩ : ∃ Y, C2.alloc (.cells #[pn (L + 1) 0] 58) = Y := ⟨_, rfl⟩
  obtain ⟨C4, hC4⟩ : ∃ Y, C3.alloc (.cells #[.int .i64 0] 3) = Y := ⟨_, rfl⟩
  obtain ⟨C4b, hC4b⟩ : ∃ Y, C4.setCell ⟨L + 3, 0, none⟩ (.int .i64 0) = Y := ⟨_, rfl⟩
  obtain ⟨C5, hC5⟩ : ∃ Y, C4b.alloc (.cells #[.int .i64 (plc : Int), .string ⟨#[122, 122]⟩, .func (.func 10) #[] #[pn (L + 3) 0, pn (L + 2) 0], .int .i64 (X.nW : Int), .int .i64 (X.nS : Int), .int .i64 (X.nC : Int), .int .i64 (X.pd : Int)] 67) = Y := ⟨_, rfl⟩
  have hL1 : C1.heap.size = L + 1 := by rw [← hC1]; simp [hL]
  have hL2 : C2.heap.size = L + 2 := by rw [← hC2]; simp [hL1]
  have hL3 : C3.heap.size = L + 3 := by rw [← hC3]; simp [hL2]
  have hL4 : C4.heap.size = L + 4 := by rw [← hC4]; simp [hL3]
  have hL4b : C4b.heap.size = L + 4 := by rw [← hC4b]; simp [World.setCell]; exact hL4
  have hL5 : C5.heap.size = L + 5 := by rw [← hC5]; simp [hL4b]
  have f1 : Fr [] wc C1 := by rw [← hC1]; exact Fr.alloc _ _ _
  have f2 : Fr [] C1 C2 := by rw [← hC2]; exact Fr.alloc _ _ _
  have f3 : Fr [] C2 C3 := by rw [← hC3]; exact Fr.alloc _ _ _
  have f4 : Fr [] C3 C4 := by rw [← hC4]; exact Fr.alloc _ _ _
  have f4b : Fr [] C3 C4b := by rw [← hC4b]; exact fr_upd f4 (by omega) _
  have f5 : Fr [] C4b C5 := by rw [← hC5]; exact Fr.alloc _ _ _
  have r1 := World.rowIs_alloc wc #[.slice (some ⟨B, 0, none⟩) X.nJ X.nJ, .slice (some ⟨B + 5, 0, none⟩) X.n X.n] 57 (fun c => if c = 0 then .slice (some ⟨B, 0, none⟩) X.nJ X.nJ else .slice (some ⟨B + 5, 0, none⟩) X.n X.n) (fun c hc => by rcases (show c = 0 ∨ c = 1 by simp at hc; omega) with rfl | rfl <;> rfl)
  have r2 := World.rowIs_alloc C1 #[.slice none 0 0, .slice none 0 0, .int .i64 0, .int .i64 0, .int .i64 0, .int .i64 0, .int .i64 0, .bool false] 60 (ruF (.slice none 0 0) (.slice none 0 0) (ruZ 0 0)) (fun c hc => by rcases (show c = 0 ∨ c = 1 ∨ c = 2 ∨ c = 3 ∨ c = 4 ∨ c = 5 ∨ c = 6 ∨ c = 7 by simp at hc; omega) with rfl | rfl | rfl | rfl | rfl | rfl | rfl | rfl <;> rfl)
  have r3 := World.rowIs_alloc C2 #[pn (L + 1) 0] 58 (fun _ => pn (L + 1) 0) (fun c hc => by rcases (show c = 0 by simp at hc; omega) with rfl; rfl)
  have r4 := World.rowIs_alloc C3 #[.int .i64 0] 3 (fun _ => .int .i64 0) (fun c hc => by rcases (show c = 0 by simp at hc; omega) with rfl; rfl)
  have r5 := World.rowIs_alloc C4b #[.int .i64 (plc : Int), .string ⟨#[122, 122]⟩, .func (.func 10) #[] #[pn (L + 3) 0, pn (L + 2) 0], .int .i64 (X.nW : Int), .int .i64 (X.nS : Int), .int .i64 (X.nC : Int), .int .i64 (X.pd : Int)] 67 (fun c => (#[.int .i64 (plc : Int), .string ⟨#[122, 122]⟩, .func (.func 10) #[] #[pn (L + 3) 0, pn (L + 2) 0], .int .i64 (X.nW : Int), .int .i64 (X.nS : Int), .int .i64 (X.nC : Int), .int .i64 (X.pd : Int)] : Array Value)[c]!) (fun c hc => by rw [getElem!_pos _ c hc]; exact Array.getElem?_eq_getElem hc)
  rw [hC1, hL] at r1
  rw [hC2, hL1] at r2
  rw [hC3, hL2] at r3
  rw [hC4, hL3] at r4
  rw [hC5, hL4b] at r5
  have c4n : C4.cell? ⟨L + 3, 0, none⟩ = some (.int .i64 0) := r4.cell (i := 0) (by simp)
  have f4n := r4.frozen 0
  have r4b : C4b.rowIs (L + 3) 3 1 (fun _ => .int .i64 0) := by rw [← hC4b]; exact (r4.set 0 _).congr fun i hi => by rcases (show i = 0 by simp at hi; omega) with rfl; rfl
  have g1 := (((f2.trans f3).trans f4b).trans f5)
  have g2 := ((f3.trans f4b).trans f5)
  have g3 := f4b.trans f5
  have q1 := g1.row r1 (by simp)
  have q2 := g2.row r2 (by simp)
  have q3 := g3.row r3 (by simp)
  have q4 := f5.row r4b (by simp)
  have hlB : B + 6 ≤ L := by have := HP.out.sz; omega
  have PC := HP.out.kept (f1.trans g1)
  have hfl := fleet11 HX.out (B + 5) L (L + 3) (L + 2) (L + 1) _ (some ⟨B, 0, none⟩) X.nJ plc C5 rfl q1 PC.full.2 q2 q4 q3 ⟨by omega, by omega, by omega⟩ hp3 HXS.out
  have k0 : C5.cell? ⟨L + 4, 0, none⟩ = some (.int .i64 (plc : Int)) := r5.cell (i := 0) (by simp)
  have k1 : C5.cell? ⟨L + 4, 1, none⟩ = some (.string ⟨#[122, 122]⟩) := r5.cell (i := 1) (by simp)
  have k2 : C5.cell? ⟨L + 4, 2, none⟩ = some (.func (.func 10) #[] #[pn (L + 3) 0, pn (L + 2) 0]) := r5.cell (i := 2) (by simp)
  have k3 : C5.cell? ⟨L + 4, 3, none⟩ = some (.int .i64 (X.nW : Int)) := r5.cell (i := 3) (by simp)
  have k4 : C5.cell? ⟨L + 4, 4, none⟩ = some (.int .i64 (X.nS : Int)) := r5.cell (i := 4) (by simp)
  have k5 : C5.cell? ⟨L + 4, 5, none⟩ = some (.int .i64 (X.nC : Int)) := r5.cell (i := 5) (by simp)
  have k6 : C5.cell? ⟨L + 4, 6, none⟩ = some (.int .i64 (X.pd : Int)) := r5.cell (i := 6) (by simp)
  have HC5 : Hid (Pr X w C5 B X.n ∧ C5.rowIs L 57 2 (fun c => if c = 0 then .slice (some ⟨B, 0, none⟩) X.nJ X.nJ else .slice (some ⟨B + 5, 0, none⟩) X.n X.n) ∧ C5.rowIs (L + 1) 60 8 (ruF (.slice none 0 0) (.slice none 0 0) (ruZ 0 0)) ∧ C5.rowIs (L + 2) 58 1 (fun _ => pn (L + 1) 0) ∧ C5.rowIs (L + 3) 3 1 (fun _ => .int .i64 0) ∧ C5.heap.size = L + 5) := ⟨PC, q1, q2, q3, q4, hL5⟩
  clear f1 f2 f3 f4 f4b f5 r1 r2 r3 r4 r4b r5 g1 g2 g3 q1 q2 q3 q4 PC HP
  go_upto_region 33 with fail
  clear hC1 hC2 hC3 hC4 hC4b hC5 hL hL1 hL2 hL3 hL4 hL4b hL5 c4n f4n
  go_cut [35] from 194 to 196 (fun v wx => ∃ bru zz ρ, v = .slice (some ⟨bru, 0, none⟩) X.n X.n ∧ Hid (FlP X (L + 3) (L + 1) C5 wx bru zz ρ))
  case first => 
    go_wp2_with (first | (go_at_call 11; refine hfl.mono ?_; clear hfl; rintro e w1 ⟨bru, zz, ρ, rfl, hpost⟩; have HPO : Hid (FlP X (L + 3) (L + 1) C5 w1 bru zz ρ) := hpost; clear hpost))
    go_meet
    exact ⟨bru, zz, ρ, rfl, HPO⟩
  case rest =>
  clear hfl k0 k1 k2 k3 k4 k5 k6 aE57 zE57 aE60 zE60 aE67 zE67
  obtain ⟨bru, zz, ρ, rfl, HF⟩ := hcut
  obtain ⟨vw, vi, R, mm, hmd⟩ := FlP.md HX.out HF.out HC5.out.1 HC5.out.2.1 HC5.out.2.2.1 HC5.out.2.2.2.1 HC5.out.2.2.2.2.1 hlB
  clear HF HC5
  have HM : Hid (Md X w wc B L bru vw vi R mm) := hmd
  have l0 : wc.cell? ⟨L, 0, none⟩ = some (.slice (some ⟨B, 0, none⟩) X.nJ X.nJ) := hmd.l.cell (i := 0) (by omega)
  have l1 : wc.cell? ⟨L, 1, none⟩ = some (.slice (some ⟨B + 5, 0, none⟩) X.n X.n) := hmd.l.cell (i := 1) (by omega)
  clear hmd
  go_upto_block 4 with fail
  clear l0 l1
  go_cut [14, 36] from 213 to 227 (fun v14 v wx => v14 = .bool false ∧ Hid (Md X w wx B L bru vw vi R mm))
  case first => 
    go_wp2_with fail
    go_loopg [14, 36] X.nJ (fun g v14 v wr => ∃ j : Nat, v14 = .bool false ∧ v = .int .i64 (j : Int) ∧ j ≤ X.nJ ∧ Hid (g = X.nJ - j ∧ Md X w wr B L bru vw vi R mm))
    case atStart => exact ⟨0, rfl, rfl, Nat.zero_le _, by omega, HM.out⟩
    case round =>
      clear HM
      obtain ⟨j, rfl, rfl, hj, HR⟩ := hrel
      by_cases hlt : j < X.nJ
      · have zi : (j : Int) < (X.nJ : Int) := by omega
        have l0 : wr.cell? ⟨L, 0, none⟩ = some (.slice (some ⟨B, 0, none⟩) X.nJ X.nJ) := HR.out.2.l.cell (i := 0) (by omega)
        have c : wr.cell? ⟨B, j, none⟩ = some (.string (jobB j)) := HR.out.2.J.cell hlt
        have hj8 : ∀ n, Calls Yba.prog 8 #[.int .i64 (j : Int)] (wr.drewN n) fun e w' => e = .returned (.string (jobB j)) ∧ w' = wr.drewN n := fun n => (job8 j (by omega) _).mono fun e w' h => ⟨h.1, h.2.symm⟩
        go_upto_region 39 with fail
        go_quiet (first | (go_at_call 8; refine Calls.quiet_of_same (hj8 _)))
        go_wp2_with fail
        go_roundg (X.nJ - (j + 1))
        case measure => have := HR.out.1; omega
        case rel => exact ⟨j + 1, rfl, rfl, by omega, rfl, HR.out.2.kept (Fr.drewN [] _ _)⟩
      · have zi : ¬ (j : Int) < (X.nJ : Int) := by omega
        go_wp2
        go_meet
        exact ⟨rfl, HR.out.2⟩
  case rest =>
  clear HM
  obtain ⟨rfl, HM⟩ := hcut
  go_upto_block 6 with fail
  go_cut [14, 37] from 228 to 258 (fun v14 v wx => v14 = .bool false ∧ Hid (Md X w wx B L bru vw vi R mm))
  case first => 
    have aE2 := agg54
    have zE2 := size54
    go_wp2_with fail
    go_loopg [14, 37] X.n (fun g v14 v wr => ∃ j : Nat, v14 = .bool false ∧ v = .int .i64 (j : Int) ∧ j ≤ X.n ∧ Hid (g = X.n - j ∧ Md X w wr B L bru vw vi R mm))
    case atStart => exact ⟨0, rfl, rfl, Nat.zero_le _, by omega, HM.out⟩
    case round =>
      clear HM
      obtain ⟨i, rfl, rfl, hi, HR⟩ := hrel
      by_cases hlt : i < X.n
      · have zi : (i : Int) < (X.n : Int) := by omega
        have P := HR.out.2
        have l1 : wr.cell? ⟨L, 1, none⟩ = some (.slice (some ⟨B + 5, 0, none⟩) X.n X.n) := P.l.cell (i := 1) (by omega)
        have s0 : wr.cell? ⟨B + 5, i * 4, none⟩ = some (.int .i64 (X.job i : Int)) := by have := P.t.cell (i := i * 4) (by omega); rw [this]; simp [tkF]
        have s1 : wr.cell? ⟨B + 5, i * 4 + 1, none⟩ = some (.int .i64 (X.dur i : Int)) := by have := P.t.cell (i := i * 4 + 1) (by omega); rw [this]; simp [tkF, show (i * 4 + 1) % 4 = 1 by omega, show (i * 4 + 1) / 4 = i by omega]
        have s2 : wr.cell? ⟨B + 5, i * 4 + 2, none⟩ = some (.int .i64 (X.arr i : Int)) := by have := P.t.cell (i := i * 4 + 2) (by omega); rw [this]; simp [tkF, show (i * 4 + 2) % 4 = 2 by omega, show (i * 4 + 2) / 4 = i by omega]
        have s3 : wr.cell? ⟨B + 5, i * 4 + 3, none⟩ = some (.string (keyB (X.key i))) := by have := P.t.cell (i := i * 4 + 3) (by omega); rw [this]; simp [tkF, show (i * 4 + 3) % 4 = 3 by omega, show (i * 4 + 3) / 4 = i by omega]
        have c1 : wr.cell? ⟨B + 1, i, none⟩ = some (.int .i64 (X.job i : Int)) := P.c.j.cell hlt
        have c2 : wr.cell? ⟨B + 2, i, none⟩ = some (.int .i64 (X.key i : Int)) := P.c.k.cell hlt
        have c3 : wr.cell? ⟨B + 3, i, none⟩ = some (.int .i64 (X.dur i : Int)) := P.c.d.cell hlt
        have c4 : wr.cell? ⟨B + 4, i, none⟩ = some (.int .i64 (X.arr i : Int)) := P.c.a.cell hlt
        have hkx := HX.out.k i hlt
        have hk9 : ∀ n, Calls Yba.prog 9 #[.int .i64 (X.key i : Int)] (wr.drewN n) fun e w' => e = .returned (.string (keyB (X.key i))) ∧ w' = wr.drewN n := fun n => (key9 _ hkx.2.1 _).mono fun e w' h => ⟨h.1, h.2.symm⟩
        clear P hkx
        go_upto_region 44 with fail
        go_quiet (first | (go_at_call 9; refine Calls.quiet_of_same (hk9 _)))
        go_wp2_with fail
        go_roundg (X.n - (i + 1))
        case measure => have := HR.out.1; omega
        case rel => exact ⟨i + 1, rfl, rfl, by omega, rfl, HR.out.2.kept (Fr.drewN [] _ _)⟩
      · have zi : ¬ (i : Int) < (X.n : Int) := by omega
        go_wp2
        go_meet
        exact ⟨rfl, HR.out.2⟩
  case rest =>
  clear HM
  obtain ⟨rfl, HM⟩ := hcut
  go_upto_region 46 with fail
  go_cut [38] from 259 to 260 (fun v wx => v = .bool X.sticky ∧ Hid (Md X w wx B L bru vw vi R mm))
  case first => 
    by_cases hp : plc = 0
    · have HE : Hid (X.sticky = true) := by show _ = _; rw [HXS.out]; exact decide_eq_true hp
      subst hp
      go_wp2
      go_meet
      exact ⟨by rw [HE.out], HM⟩
    · have HE : Hid (X.sticky = false) := by show _ = _; rw [HXS.out]; exact decide_eq_false hp
      have hp2 : ¬ (plc : Int) = 0 := by omega
      go_wp2
      go_meet
      exact ⟨by rw [HE.out]; congr 1; exact beq_false_of_ne hp2, HM⟩
  case rest =>
  clear HM
  obtain ⟨rfl, HM⟩ := hcut
  obtain ⟨wz, rfl⟩ : ∃ Y, wc = Y := ⟨_, rfl⟩
  obtain ⟨z, hz⟩ : ∃ y, wc.heap.size = y := ⟨_, rfl⟩
  obtain ⟨D0, hD0⟩ : ∃ Y, wc.alloc (.cells (madeCells #[.int .i64 0] 5) 3) = Y := ⟨_, rfl⟩
  have m5 : ∀ w, (Instr.makeSlice 48 (.int .i64 5) (.int .i64 5)).run Yba.prog w = .ok (.slice (some ⟨w.heap.size, 0, none⟩) 5 5) (w.alloc (.cells (madeCells #[.int .i64 0] 5) 3)) := fun w => mk48 5 (by omega) w
  have HZ : Hid (wc.heap.size = z) := hz
  have HD0 : Hid (D0.rowIs z 3 5 (upto 0 (ownK X.nW)) ∧ Fr [] wc D0 ∧ D0.heap.size = z + 1) := by
    have r := World.rowIs_made wc (.int .i64 0) 5 3
    rw [hD0, hz] at r
    exact ⟨upto_made r, by rw [← hD0]; exact Fr.alloc _ _ _, by rw [← hD0]; simp [hz]⟩
  go_upto_block 8 with fail
  clear hD0 m5 hz
  obtain ⟨wz, hwz⟩ : ∃ Y, wc = Y := ⟨_, rfl⟩
  rw [hwz] at HM HZ HD0
  clear hwz wc
  go_cut [40] from 262 to 275 (fun v wx => Hid (wx.rowIs z 3 5 (upto 5 (ownK X.nW)) ∧ Fr [] wz wx ∧ wx.heap.size = z + 1))
  case first => 
    have hw0 := HX.out.b2.1
    have hwu : IntKind.u32.wrap (X.nW : Int) = (X.nW : Int) := by rcases (show X.nW = 1 ∨ X.nW = 2 ∨ X.nW = 3 ∨ X.nW = 4 by omega) with e | e | e | e <;> rw [e] <;> decide
    have hnz2 : ¬ (X.nW : Int) = 0 := by omega
    have hnz3 : ¬ X.nW = 0 := by omega
    have hnz4 : ((X.nW : Int) == 0) = false := by simp; omega
    go_wp2_with fail
    go_loopg [40] 5 (fun g v wr => ∃ j : Nat, v = .int .i64 (j : Int) ∧ j ≤ 5 ∧ Hid (g = 5 - j ∧ wr.rowIs z 3 5 (upto j (ownK X.nW)) ∧ Fr [] wz wr ∧ wr.heap.size = z + 1))
    case atStart => exact ⟨0, rfl, Nat.zero_le _, by omega, HD0.out⟩
    case round =>
      clear HD0
      obtain ⟨j, rfl, hj, HR⟩ := hrel
      by_cases hlt : j < 5
      · have zi : (j : Int) < 5 := by omega
        have c := HR.out.2.1.cell hlt
        have f := HR.out.2.1.frozen j
        have hk9 := key9 j hlt wr
        obtain ⟨hv, hhv⟩ : ∃ x, x = fnvTo (keyB j) (keyB j).size := ⟨_, rfl⟩
        have hf12 := fnv12 (keyB j) wr (keyB_size _)
        rw [← hhv] at hf12
        have hv0 : 0 ≤ hv := by rw [hhv]; exact fnvTo_nn _ _
        have HV0 : Hid (0 ≤ hv) := hv0
        have HHV : Hid (hv = fnvTo (keyB j) (keyB j).size) := hhv
        have hmod : hv.tmod (X.nW : Int) = hv % (X.nW : Int) := Int.tmod_eq_emod_of_nonneg hv0
        have hwm : wrap64 (hv.tmod (X.nW : Int)) = hv % (X.nW : Int) := wrap64_mod hv0 (by omega) (by omega)
        have HST : Hid (∀ x : Int, x = hv % (X.nW : Int) → World.rowIs (wr.setCell ⟨z, j, none⟩ (.int .i64 x)) z 3 5 (upto (j + 1) (ownK X.nW)) ∧ Fr [] wz (wr.setCell ⟨z, j, none⟩ (.int .i64 x)) ∧ (wr.setCell ⟨z, j, none⟩ (.int .i64 x)).heap.size = z + 1) := fun x hx => by
          refine ⟨upto_set HR.out.2.1 ?_, fr_upd HR.out.2.2.1 (by rw [HZ.out]; exact Nat.le_refl _) _, by simp [World.setCell]; exact HR.out.2.2.2⟩
          rw [hx, HHV.out]; exact ownK_fnv (by omega)
        clear hhv hv0 hmod
        go_wp2_with (first | (go_at_call 9; refine hk9.mono ?_; clear hk9; rintro e w1 ⟨rfl, rfl⟩) | (go_at_call 12; refine hf12.mono ?_; clear hf12; rintro e w1 ⟨rfl, rfl⟩))
        go_roundg (5 - (j + 1))
        case measure => have := HR.out.1; omega
        case rel =>
          refine ⟨j + 1, rfl, by omega, rfl, HST.out _ ?_⟩
          first
          | rfl
          | exact wrap64_mod HV0.out (by omega) (by omega)
          | omega
      · have zi : ¬ (j : Int) < 5 := by omega
        have HE : Hid (j = 5) := by show j = 5; omega
        go_wp2
        go_meet
        have h := HR.out.2
        rw [HE.out] at h
        exact h
  case rest =>
  clear HD0
  have HO : Hid (wc.rowIs z 3 5 (upto 5 (ownK X.nW)) ∧ Fr [] wz wc ∧ wc.heap.size = z + 1) := hcut
  clear hcut
  have m72 := mk72 X.n (by omega)
  have m49 := mk49 X.n (by omega)
  have m48 := mk48 X.n (by omega)
  have m48W := mk48 X.nW (by omega)
  have g0 := HO.out.2.2
  obtain ⟨E1, hE1⟩ : ∃ Y, wc.alloc (.cells (madeCells #[.bool false] X.n) 4) = Y := ⟨_, rfl⟩
  obtain ⟨E2, hE2⟩ : ∃ Y, E1.alloc (.cells (madeCells #[.bool false] X.n) 4) = Y := ⟨_, rfl⟩
  obtain ⟨E3, hE3⟩ : ∃ Y, E2.alloc (.cells (madeCells #[.bool false] X.n) 4) = Y := ⟨_, rfl⟩
  obtain ⟨E4, hE4⟩ : ∃ Y, E3.alloc (.cells (madeCells #[.bool false] X.n) 4) = Y := ⟨_, rfl⟩
  obtain ⟨E5, hE5⟩ : ∃ Y, E4.alloc (.cells (madeCells #[.int .i64 0] X.n) 44) = Y := ⟨_, rfl⟩
  obtain ⟨E6, hE6⟩ : ∃ Y, E5.alloc (.cells (madeCells #[.int .i64 0] X.n) 44) = Y := ⟨_, rfl⟩
  obtain ⟨E7, hE7⟩ : ∃ Y, E6.alloc (.cells (madeCells #[.int .i64 0] X.n) 3) = Y := ⟨_, rfl⟩
  obtain ⟨E8, hE8⟩ : ∃ Y, E7.alloc (.cells (madeCells #[.int .i64 0] X.nW) 3) = Y := ⟨_, rfl⟩
  have g1 : E1.heap.size = z + 2 := by rw [← hE1]; simp [g0]
  have g2 : E2.heap.size = z + 3 := by rw [← hE2]; simp [g1]
  have g3 : E3.heap.size = z + 4 := by rw [← hE3]; simp [g2]
  have g4 : E4.heap.size = z + 5 := by rw [← hE4]; simp [g3]
  have g5 : E5.heap.size = z + 6 := by rw [← hE5]; simp [g4]
  have g6 : E6.heap.size = z + 7 := by rw [← hE6]; simp [g5]
  have g7 : E7.heap.size = z + 8 := by rw [← hE7]; simp [g6]
  have g8 : E8.heap.size = z + 9 := by rw [← hE8]; simp [g7]
  have HR0 : Hid (Rw X z wz E8 (fun _ => .int .i64 0)) := by
    have f1 : Fr [] wc E1 := by rw [← hE1]; exact Fr.alloc _ _ _
    have f2 : Fr [] E1 E2 := by rw [← hE2]; exact Fr.alloc _ _ _
    have f3 : Fr [] E2 E3 := by rw [← hE3]; exact Fr.alloc _ _ _
    have f4 : Fr [] E3 E4 := by rw [← hE4]; exact Fr.alloc _ _ _
    have f5 : Fr [] E4 E5 := by rw [← hE5]; exact Fr.alloc _ _ _
    have f6 : Fr [] E5 E6 := by rw [← hE6]; exact Fr.alloc _ _ _
    have f7 : Fr [] E6 E7 := by rw [← hE7]; exact Fr.alloc _ _ _
    have f8 : Fr [] E7 E8 := by rw [← hE8]; exact Fr.alloc _ _ _
    have r1 := World.rowIs_made wc (.bool false) X.n 4
    have r2 := World.rowIs_made E1 (.bool false) X.n 4
    have r3 := World.rowIs_made E2 (.bool false) X.n 4
    have r4 := World.rowIs_made E3 (.bool false) X.n 4
    have r5 := World.rowIs_made E4 (.int .i64 0) X.n 44
    have r6 := World.rowIs_made E5 (.int .i64 0) X.n 44
    have r7 := World.rowIs_made E6 (.int .i64 0) X.n 3
    have r8 := World.rowIs_made E7 (.int .i64 0) X.nW 3
    rw [hE1, g0] at r1
    rw [hE2, g1] at r2
    rw [hE3, g2] at r3
    rw [hE4, g3] at r4
    rw [hE5, g4] at r5
    rw [hE6, g5] at r6
    rw [hE7, g6] at r7
    rw [hE8, g7] at r8
    have h7 := f7.trans f8
    have h6 := f6.trans h7
    have h5 := f5.trans h6
    have h4 := f4.trans h5
    have h3 := f3.trans h4
    have h2 := f2.trans h3
    have h1 := f1.trans h2
    exact ⟨HO.out.2.1.trans h1, HZ.out, g8, h1.row (upto_full HO.out.1) (by simp), h2.row r1 (by simp), h3.row r2 (by simp), h4.row r3 (by simp), h5.row r4 (by simp), h6.row r5 (by simp), h7.row r6 (by simp), f8.row r7 (by simp), r8⟩
  go_upto_block 10 with fail
  clear m72 m49 m48 m48W hE1 hE2 hE3 hE4 hE5 hE6 hE7 hE8 g0 g1 g2 g3 g4 g5 g6 g7 g8 HO
  go_cut [49] from 292 to 300 (fun v wx => Hid (Rw X z wz wx (fun _ => .int .i64 (X.nS : Int))))
  case first => 
    go_wp2_with fail
    go_loopg [49] X.nW (fun g v wr => ∃ j : Nat, v = .int .i64 (j : Int) ∧ j ≤ X.nW ∧ Hid (g = X.nW - j ∧ Rw X z wz wr (fun k => if k < j then .int .i64 (X.nS : Int) else .int .i64 0)))
    case atStart => exact ⟨0, rfl, Nat.zero_le _, by omega, HR0.out.congr (fun k hk => by rw [if_neg (by omega)])⟩
    case round =>
      clear HR0
      obtain ⟨j, rfl, hj, HR⟩ := hrel
      by_cases hlt : j < X.nW
      · have zi : (j : Int) < (X.nW : Int) := by omega
        have c := HR.out.2.r8.cell hlt
        have f := HR.out.2.r8.frozen j
        obtain ⟨W1, hW1⟩ : ∃ Y, wr.setCell ⟨z + 8, j, none⟩ (.int .i64 (X.nS : Int)) = Y := ⟨_, rfl⟩
        have HW1 : Hid (Rw X z wz W1 (fun k => if k < j + 1 then .int .i64 (X.nS : Int) else .int .i64 0)) := by
          rw [← hW1]
          refine (HR.out.2.set j _).congr fun k hk => ?_
          by_cases e : k = j
          · rw [if_pos e, if_pos (by omega)]
          · rw [if_neg e]
            by_cases e2 : k < j
            · rw [if_pos e2, if_pos (by omega)]
            · rw [if_neg e2, if_neg (by omega)]
        go_wp2_with fail
        go_roundg (X.nW - (j + 1))
        case measure => have := HR.out.1; omega
        case rel => exact ⟨j + 1, rfl, by omega, rfl, HW1.out⟩
      · have zi : ¬ (j : Int) < (X.nW : Int) := by omega
        have HE : Hid (j = X.nW) := by show j = X.nW; omega
        go_wp2
        go_meet
        have h := HR.out.2
        rw [HE.out] at h
        exact h.congr fun k hk => by rw [if_pos hk]
  case rest =>
  clear HR0
  have HR : Hid (Rw X z wz wc (fun _ => .int .i64 (X.nS : Int))) := hcut
  clear hcut
  have m73 := mk73 X.nW (by omega)
  have m48J := mk48 X.nJ (by omega)
  have g9 := HR.out.gr
  obtain ⟨F1, hF1⟩ : ∃ Y, wc.alloc (.cells (madeCells #[.slice none 0 0] X.nW) 48) = Y := ⟨_, rfl⟩
  obtain ⟨F2, hF2⟩ : ∃ Y, F1.alloc (.cells (madeCells #[.int .i64 0] X.nJ) 3) = Y := ⟨_, rfl⟩
  obtain ⟨F3, hF3⟩ : ∃ Y, F2.alloc (.cells (madeCells #[.int .i64 0] X.nJ) 3) = Y := ⟨_, rfl⟩
  have g10 : F1.heap.size = z + 10 := by rw [← hF1]; simp [g9]
  have g11 : F2.heap.size = z + 11 := by rw [← hF2]; simp [g10]
  have g12 : F3.heap.size = z + 12 := by rw [← hF3]; simp [g11]
  have HMR : Hid (MR X z wz F3 MS.init) := by
    have f1 : Fr [] wc F1 := by rw [← hF1]; exact Fr.alloc _ _ _
    have f2 : Fr [] F1 F2 := by rw [← hF2]; exact Fr.alloc _ _ _
    have f3 : Fr [] F2 F3 := by rw [← hF3]; exact Fr.alloc _ _ _
    have r1 := World.rowIs_made wc (.slice none 0 0) X.nW 48
    have r2 := World.rowIs_made F1 (.int .i64 0) X.nJ 3
    have r3 := World.rowIs_made F2 (.int .i64 0) X.nJ 3
    rw [hF1, g9] at r1
    rw [hF2, g10] at r2
    rw [hF3, g11] at r3
    exact HR.out.mr ((f1.trans f2).trans f3) g12 ((f2.trans f3).row r1 (by simp)) (f3.row r2 (by simp)) r3
  go_upto_block 12 with fail
  clear m73 m48J hF1 hF2 hF3 g9 g10 g11 g12 HR
  rename_i K3 hK3
  refine law_model HX.out (z := z) (bj := B + 1) (bk := B + 2) (bd := B + 3) (ba := B + 4) (bru := bru) (bx := L + 2) (bn := L + 3) (wz := wz) ⟨rfl, rfl, rfl, rfl, rfl, rfl, rfl, rfl, rfl, rfl, rfl, rfl, rfl, rfl, rfl, rfl, rfl, rfl, rfl, rfl, rfl, rfl, rfl, rfl, rfl, rfl, rfl, rfl⟩ HM.out.c HMR.out rfl rfl rfl ?_
  intro a wf b E h54 hrun hmi hall M
  apply hK3
  clear hK3
  have mdf := HM.out.kept M.fr
  have HMF : Hid (Md X w wf B L bru vw vi R mm ∧ MR X z wz wf b ∧ Run (parB X) MS.init b) := ⟨mdf, M, hrun⟩
  clear mdf M hrun hmi hall HM HMR
  obtain ⟨u, hu, ha⟩ := act817 E.hd E.hs
  have e14 := (hu 14).trans E.s14
  have e15 := (hu 15).trans E.s15
  have e16 := (hu 16).trans E.s16
  have e18 := (hu 18).trans E.s18
  have e19 := (hu 19).trans E.s19
  have e21 := (hu 21).trans E.s21
  have e24 := (hu 24).trans E.s24
  have e25 := (hu 25).trans E.s25
  have e26 := (hu 26).trans E.s26
  have e27 := (hu 27).trans E.s27
  have e32 := (hu 32).trans E.s32
  have e33 := (hu 33).trans E.s33
  have e35 := (hu 35).trans E.s35
  have e38 := (hu 38).trans E.s38
  have e39 := (hu 39).trans E.s39
  have e41 := (hu 41).trans E.s41
  have e42 := (hu 42).trans E.s42
  have e43 := (hu 43).trans E.s43
  have e44 := (hu 44).trans E.s44
  have e45 := (hu 45).trans E.s45
  have e46 := (hu 46).trans E.s46
  have e47 := (hu 47).trans E.s47
  have e48 := (hu 48).trans E.s48
  have e50 := (hu 50).trans E.s50
  have e51 := (hu 51).trans E.s51
  have e52 := (hu 52).trans E.s52
  have e54 := (hu 54).trans h54
  clear E hu h54
  subst ha
  simp only [e14, e15, e16, e18, e19, e21, e24, e25, e26, e27, e32, e33, e35, e38, e39, e41, e42, e43, e44, e45, e46, e47, e48, e50, e51, e52, e54, slc]
  clear e14 e15 e16 e18 e19 e21 e24 e25 e26 e27 e32 e33 e35 e38 e39 e41 e42 e43 e44 e45 e46 e47 e48 e50 e51 e52 e54
  go_upto_block 32 with fail
  go_cut [14, 73] from 721 to 747 (fun v14 v wx => v14 = .bool false ∧ Hid (Fr [] wf wx))
  case first => 
    have aE2 := agg79
    have zE2 := size79
    go_wp2_with fail
    go_loopg [14, 73] X.n (fun g v14 v wr => ∃ j : Nat, v14 = .bool false ∧ v = .int .i64 (j : Int) ∧ j ≤ X.n ∧ Hid (g = X.n - j ∧ Fr [] wf wr))
    case atStart => exact ⟨0, rfl, rfl, Nat.zero_le _, by omega, Fr.refl _ _⟩
    case round =>
      obtain ⟨i, rfl, rfl, hi, HR⟩ := hrel
      by_cases hlt : i < X.n
      · have zi : (i : Int) < (X.n : Int) := by omega
        have f := HR.out.2
        have rr := f.row (HMF.out.1.run b HMF.out.2.2) (by simp)
        have s0 : wr.cell? ⟨bru, i * 4, none⟩ = some (.int .i64 (b.st i : Int)) := by have := rr.cell (i := i * 4) (by omega); rw [this]; simp [runF]
        have s1 : wr.cell? ⟨bru, i * 4 + 1, none⟩ = some (.int .i64 (b.en i : Int)) := by have := rr.cell (i := i * 4 + 1) (by omega); rw [this]; simp [runF, show (i * 4 + 1) % 4 = 1 by omega, show (i * 4 + 1) / 4 = i by omega]
        have s2 : wr.cell? ⟨bru, i * 4 + 2, none⟩ = some (.int .i64 (b.wk i : Int)) := by have := rr.cell (i := i * 4 + 2) (by omega); rw [this]; simp [runF, show (i * 4 + 2) % 4 = 2 by omega, show (i * 4 + 2) / 4 = i by omega]
        have s3 : wr.cell? ⟨bru, i * 4 + 3, none⟩ = some (.bool (b.cold i)) := by have := rr.cell (i := i * 4 + 3) (by omega); rw [this]; simp [runF, show (i * 4 + 3) % 4 = 3 by omega, show (i * 4 + 3) / 4 = i by omega]
        have M := HMF.out.2.1
        have c1 : wr.cell? ⟨z + 5, i, none⟩ = some (.int .i64 (b.st i : Int)) := f.cell (M.r5.cell hlt) (by simp)
        have c2 : wr.cell? ⟨z + 6, i, none⟩ = some (.int .i64 (b.en i : Int)) := f.cell (M.r6.cell hlt) (by simp)
        have c3 : wr.cell? ⟨z + 7, i, none⟩ = some (.int .i64 (b.wk i : Int)) := f.cell (M.r7.cell hlt) (by simp)
        have c4 : wr.cell? ⟨z + 4, i, none⟩ = some (.bool (b.cold i)) := f.cell (M.r4.cell hlt) (by simp)
        clear f rr M
        go_upto_region 161 with fail
        go_quiet (fail)
        go_wp2_with fail
        go_roundg (X.n - (i + 1))
        case measure => have := HR.out.1; omega
        case rel => exact ⟨i + 1, rfl, rfl, by omega, rfl, HR.out.2.trans (Fr.drewN [] _ _)⟩
      · have zi : ¬ (i : Int) < (X.n : Int) := by omega
        go_wp2
        go_meet
        exact ⟨rfl, HR.out.2⟩
  case rest =>
  obtain ⟨rfl, HFX⟩ := hcut
  have mdf := HMF.out.1.kept HFX.out
  have x0 : wc.cell? ⟨L + 2, 0, none⟩ = some (pn (L + 1) 0) := mdf.x.cell (i := 0) (by omega)
  have r7 : wc.cell? ⟨L + 1, 7, none⟩ = some (.bool false) := mdf.r.cell (i := 7) (by omega)
  have hFin : Hid (Fr [] w wc) := mdf.fr
  have r2 : wc.cell? ⟨L + 1, 2, none⟩ = some (.int .i64 (R.adds : Int)) := mdf.r.cell (i := 2) (by omega)
  have r3 : wc.cell? ⟨L + 1, 3, none⟩ = some (.int .i64 (R.enq : Int)) := mdf.r.cell (i := 3) (by omega)
  have r4 : wc.cell? ⟨L + 1, 4, none⟩ = some (.int .i64 (R.starts : Int)) := mdf.r.cell (i := 4) (by omega)
  have r5 : wc.cell? ⟨L + 1, 5, none⟩ = some (.int .i64 (R.dones : Int)) := mdf.r.cell (i := 5) (by omega)
  have nc := mdf.nc
  have hsd : X.sticky = true ∨ X.sticky = false := by cases X.sticky <;> simp
  rcases hsd with hs | hs
  · obtain ⟨y1, y2, y3, y4, y5⟩ := mdf.st hs
    rw [y2] at r2
    rw [y3] at r3
    rw [y4] at r4
    rw [y5] at r5
    rw [y1] at nc
    have nc' : wc.cell? ⟨L + 3, 0, none⟩ = some (.int .i64 1) := nc
    simp only [hs]
    clear nc y1 y2 y3 y4 y5 hs mdf
    go_wp2_with fail
    go_ret
    exact ⟨rfl, hFin.out.os, hFin.out.tape, hFin.out.output, hFin.out.size, fun k hk => hFin.out.block k hk (by simp)⟩
  · obtain ⟨y1, y2, y3, y4, y5⟩ := mdf.pi hs
    rw [y2] at r2
    rw [y3] at r3
    rw [y4] at r4
    rw [y5] at r5
    rw [y1] at nc
    have nc' : wc.cell? ⟨L + 3, 0, none⟩ = some (.int .i64 0) := nc
    have r2' : wc.cell? ⟨L + 1, 2, none⟩ = some (.int .i64 0) := r2
    have r3' : wc.cell? ⟨L + 1, 3, none⟩ = some (.int .i64 0) := r3
    have r4' : wc.cell? ⟨L + 1, 4, none⟩ = some (.int .i64 0) := r4
    have r5' : wc.cell? ⟨L + 1, 5, none⟩ = some (.int .i64 0) := r5
    simp only [hs]
    clear nc r2 r3 r4 r5 y1 y2 y3 y4 y5 hs mdf
    go_wp2_with fail
    go_ret
    exact ⟨rfl, hFin.out.os, hFin.out.tape, hFin.out.output, hFin.out.size, fun k hk => hFin.out.block k hk (by simp)⟩
end Go.Proofs.Ybulkdpsg

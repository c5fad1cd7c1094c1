/- S5830C: the law: those that arrive. -/
import Derived.Test.YbulkdpsgZ3
namespace Go.Proofs.Ybulkdpsg
open Go Go.RowKit Go.Sort Go.Proofs Go.Lib
set_option linter.unusedVariables false
set_option linter.unusedSimpArgs false
set_option maxRecDepth 100000 in
set_option maxHeartbeats 16000000 in
theorem law_arr {X : Inp} (hX : InpOk X) {z bj bk bd ba bru bx bn now : Nat} {wz w : World} {s : MS} {a : Act} {K : Act → World → Prop} {Q : Exit → Act → World → Prop} (E : Env X z bj bk bd ba bru bx bn a) (C : Cst X bj bk bd ba wz) (M : MR X z wz w s) (hnow : s.now = now) (s53 : sl a 53 = .int .i64 (now : Int)) (s57 : sl a 57 = .int .i64 0)
    (hK : ∀ a' w', Env X z bj bk bd ba bru bx bn a' → sl a' 53 = .int .i64 (now : Int) → sl a' 54 = sl a 54 → sl a' 55 = sl a 55 → MR X z wz w' (arrAll (parB X) s) → K a' w') :
    Code.wp Yba.prog (.block 16 (blk 16)) (Exit.then K Q) a w := by
  obtain ⟨u, hu, ha⟩ := act817 E.hd E.hs
  have e14 := (hu 14).trans E.s14
  have e15 := (hu 15).trans E.s15
  have e16 := (hu 16).trans E.s16
  have e18 := (hu 18).trans E.s18
  have e19 := (hu 19).trans E.s19
  have e21 := (hu 21).trans E.s21
  have e24 := (hu 24).trans E.s24
  have e25 := (hu 25).trans E.s25
  have e26 := (hu 26).trans E.s26
  have e27 := (hu 27).trans E.s27
  have e32 := (hu 32).trans E.s32
  have e33 := (hu 33).trans E.s33
  have e35 := (hu 35).trans E.s35
  have e38 := (hu 38).trans E.s38
  have e39 := (hu 39).trans E.s39
  have e41 := (hu 41).trans E.s41
  have e42 := (hu 42).trans E.s42
  have e43 := (hu 43).trans E.s43
  have e44 := (hu 44).trans E.s44
  have e45 := (hu 45).trans E.s45
  have e46 := (hu 46).trans E.s46
  have e47 := (hu 47).trans E.s47
  have e48 := (hu 48).trans E.s48
  have e50 := (hu 50).trans E.s50
  have e51 := (hu 51).trans E.s51
  have e52 := (hu 52).trans E.s52
  have e53 := (hu 53).trans s53
  have e57 := (hu 57).trans s57
  have h54 : sl a 54 = u 54 := (hu 54).symm
  have h55 : sl a 55 = u 55 := (hu 55).symm
  rw [h54, h55] at hK
  clear E hu s53 s57 h54 h55
  subst ha
  simp only [e14, e15, e16, e18, e19, e21, e24, e25, e26, e27, e32, e33, e35, e38, e39, e41, e42, e43, e44, e45, e46, e47, e48, e50, e51, e52, e53, e57, slc]
  clear e14 e15 e16 e18 e19 e21 e24 e25 e26 e27 e32 e33 e35 e38 e39 e41 e42 e43 e44 e45 e46 e47 e48 e50 e51 e52 e53 e57
  conv => arg 2; arg 2; whnf
  have mixed := mixedYba
  have hn := hX.b1
  have HX : Hid (InpOk X) := hX
  have HC : Hid (Cst X bj bk bd ba wz) := C
  have HM : Hid (MR X z wz w s) := M
  have HNOW : Hid (s.now = now) := hnow
  clear hX C M hnow
  go_wp2_with fail
  go_loopg [57] X.n (fun g v57 wr => ∃ i : Nat, v57 = .int .i64 (i : Int) ∧ i ≤ X.n ∧ Hid (g = X.n - i ∧ MR X z wz wr (arrTo (parB X) s i)))
  case atStart => exact ⟨0, rfl, Nat.zero_le _, by omega, by rw [arrTo_zero]; exact HM.out⟩
  case round =>
    obtain ⟨i, rfl, hi, HR⟩ := hrel
    by_cases hlt : i < X.n
    · have zi : (i : Int) < (X.n : Int) := by omega
      have hk := HX.out.k i hlt
      have c41 : wr.cell? ⟨z + 1, i, none⟩ = some (.bool (s.arrived i)) := by have := HR.out.2.r1.cell hlt; rw [this, arrTo_arrived]
      have f41 := HR.out.2.r1.frozen i
      have c27 : wr.cell? ⟨ba, i, none⟩ = some (.int .i64 (X.arr i : Int)) := HR.out.2.fr.cell (HC.out.a.cell hlt) (by simp)
      have c24 : wr.cell? ⟨bj, i, none⟩ = some (.int .i64 (X.job i : Int)) := HR.out.2.fr.cell (HC.out.j.cell hlt) (by simp)
      cases ha : s.arrived i with
      | true =>
        rw [ha] at c41
        have HA : Hid (s.arrived i = true) := ha
        clear ha
        go_wp2
        go_roundg (X.n - (i + 1))
        case measure => have := HR.out.1; omega
        case rel => exact ⟨i + 1, rfl, by omega, rfl, by rw [arrTo_no (fun hh => by rw [HA.out] at hh; cases hh.1)]; exact HR.out.2⟩
      | false =>
        rw [ha] at c41
        have HA : Hid (s.arrived i = false) := ha
        by_cases hle : X.arr i ≤ now
        · have hd1 : decide ((X.arr i : Int) ≤ (now : Int)) = true := decide_eq_true (by omega)
          have hd2 : decide (X.arr i ≤ now) = true := decide_eq_true hle
          have hns : (arrTo (parB X) s i).started i = false := by
            cases e : s.started i with
            | false => exact e
            | true => have := HM.out.mi.sa i e; rw [ha] at this; cases this
          have HST : Hid _ := HR.out.2.arrStep hlt hk.1 (by rw [arrTo_arrived]; exact ha) hns
          obtain ⟨wt, hwt⟩ : ∃ x, x = wait (parB X) (arrTo (parB X) s i) (X.job i) := ⟨_, rfl⟩
          have hwn : wt ≤ 2048 := by rw [hwt]; have : wait (parB X) (arrTo (parB X) s i) (X.job i) ≤ X.n := cnt_le _ _; omega
          rw [← hwt] at HST
          obtain ⟨W1, hW1⟩ : ∃ Y, wr.setCell ⟨z + 1, i, none⟩ (.bool true) = Y := ⟨_, rfl⟩
          obtain ⟨W2, hW2⟩ : ∃ Y, W1.setCell ⟨z + 11, X.job i, none⟩ (.int .i64 ((wt : Int) + 1)) = Y := ⟨_, rfl⟩
          rw [hW1, hW2] at HST
          have r11 : W1.rowIs (z + 11) 3 X.nJ (fun j => .int .i64 (wait (parB X) (arrTo (parB X) s i) j : Int)) := by rw [← hW1]; exact HR.out.2.r11.so (by omega) _
          have c52 : W1.cell? ⟨z + 11, X.job i, none⟩ = some (.int .i64 (wt : Int)) := by have := r11.cell hk.1; rw [this, hwt]
          have f52 := r11.frozen (X.job i)
          have c24b : W1.cell? ⟨bj, i, none⟩ = some (.int .i64 (X.job i : Int)) := by rw [← hW1]; exact (fr_upd HR.out.2.fr (by rw [HR.out.2.zs]; omega) _).cell (HC.out.j.cell hlt) (by simp)
          have zj : (X.job i : Int) < (X.nJ : Int) := by have := hk.1; omega
          have HLE : Hid (X.arr i ≤ now) := hle
          clear ha hle hns r11 hwt
          go_wp2
          go_roundg (X.n - (i + 1))
          case measure => have := HR.out.1; omega
          case rel => exact ⟨i + 1, rfl, by omega, rfl, by rw [arrTo_yes (by show X.arr i ≤ s.now; rw [HNOW.out]; exact HLE.out)]; exact HST.out⟩
        · have hd1 : decide ((X.arr i : Int) ≤ (now : Int)) = false := decide_eq_false (by omega)
          have hd2 : decide (X.arr i ≤ now) = false := decide_eq_false hle
          have HLE : Hid (¬ X.arr i ≤ now) := hle
          clear ha hle
          go_wp2
          go_roundg (X.n - (i + 1))
          case measure => have := HR.out.1; omega
          case rel => exact ⟨i + 1, rfl, by omega, rfl, by rw [arrTo_no (fun hh => HLE.out (by have := hh.2; rw [HNOW.out] at this; exact this))]; exact HR.out.2⟩
    · have ei : i = X.n := by omega
      have zi : ¬ (i : Int) < (X.n : Int) := by omega
      have HE : Hid (i = X.n) := ei
      clear ei
      go_wp2
      refine hK _ _ ⟨rfl, rfl, rfl, rfl, rfl, rfl, rfl, rfl, rfl, rfl, rfl, rfl, rfl, rfl, rfl, rfl, rfl, rfl, rfl, rfl, rfl, rfl, rfl, rfl, rfl, rfl, rfl, rfl⟩ rfl rfl rfl ?_
      have := HR.out.2
      rw [HE.out] at this
      exact this
end Go.Proofs.Ybulkdpsg

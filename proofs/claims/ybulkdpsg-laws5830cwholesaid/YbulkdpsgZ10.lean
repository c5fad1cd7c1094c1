/- S5830C: the law: the earliest task of the job. -/
import Derived.Test.YbulkdpsgZ9
namespace Go.Proofs.Ybulkdpsg
open Go Go.RowKit Go.Sort Go.Proofs Go.Lib
set_option linter.unusedVariables false
set_option linter.unusedSimpArgs false
set_option maxRecDepth 100000 in
set_option maxHeartbeats 16000000 in
theorem law_cold {X : Inp} (hX : InpOk X) {z bj bk bd ba bru bx bn now : Nat} {wz w : World} {s : MS} {a : Act} {K : Act → World → Prop} {Q : Exit → Act → World → Prop} (E : Env X z bj bk bd ba bru bx bn a) (C : Cst X bj bk bd ba wz) (M : MR X z wz w s) (hnow : s.now = now) (s53 : sl a 53 = .int .i64 (now : Int)) {j : Nat} (s59 : sl a 59 = .int .i64 (-1)) (s61 : sl a 61 = .int .i64 (j : Int)) (s65 : sl a 65 = .int .i64 0)
    (hK : ∀ a' w' (t : Int), Env X z bj bk bd ba bru bx bn a' → sl a' 53 = .int .i64 (now : Int) → sl a' 54 = sl a 54 → sl a' 55 = sl a 55 → sl a' 58 = sl a 58 → sl a' 59 = .int .i64 t → BestP X (W (parB X) s j) X.n t → MR X z wz w' s → K a' w') :
    Code.wp Yba.prog (.block 24 (blk 24)) (Exit.then K Q) a w := by
  obtain ⟨u, hu, ha⟩ := act817 E.hd E.hs
  have e14 := (hu 14).trans E.s14
  have e15 := (hu 15).trans E.s15
  have e16 := (hu 16).trans E.s16
  have e18 := (hu 18).trans E.s18
  have e19 := (hu 19).trans E.s19
  have e21 := (hu 21).trans E.s21
  have e24 := (hu 24).trans E.s24
  have e25 := (hu 25).trans E.s25
  have e26 := (hu 26).trans E.s26
  have e27 := (hu 27).trans E.s27
  have e32 := (hu 32).trans E.s32
  have e33 := (hu 33).trans E.s33
  have e35 := (hu 35).trans E.s35
  have e38 := (hu 38).trans E.s38
  have e39 := (hu 39).trans E.s39
  have e41 := (hu 41).trans E.s41
  have e42 := (hu 42).trans E.s42
  have e43 := (hu 43).trans E.s43
  have e44 := (hu 44).trans E.s44
  have e45 := (hu 45).trans E.s45
  have e46 := (hu 46).trans E.s46
  have e47 := (hu 47).trans E.s47
  have e48 := (hu 48).trans E.s48
  have e50 := (hu 50).trans E.s50
  have e51 := (hu 51).trans E.s51
  have e52 := (hu 52).trans E.s52
  have e53 := (hu 53).trans s53
  have e59 := (hu 59).trans s59
  have e61 := (hu 61).trans s61
  have e65 := (hu 65).trans s65
  have h54 : sl a 54 = u 54 := (hu 54).symm
  have h55 : sl a 55 = u 55 := (hu 55).symm
  have h58 : sl a 58 = u 58 := (hu 58).symm
  rw [h54, h55, h58] at hK
  clear E hu s53 s59 s61 s65 h54 h55 h58
  subst ha
  simp only [e14, e15, e16, e18, e19, e21, e24, e25, e26, e27, e32, e33, e35, e38, e39, e41, e42, e43, e44, e45, e46, e47, e48, e50, e51, e52, e53, e59, e61, e65, slc]
  clear e14 e15 e16 e18 e19 e21 e24 e25 e26 e27 e32 e33 e35 e38 e39 e41 e42 e43 e44 e45 e46 e47 e48 e50 e51 e52 e53 e59 e61 e65
  conv => arg 2; arg 2; whnf
  have mixed := mixedYba
  have hn := hX.b1
  have HX : Hid (InpOk X) := hX
  have HC : Hid (Cst X bj bk bd ba wz) := C
  have HM : Hid (MR X z wz w s) := M
  clear hX C M hnow
  go_wp2_with fail
  go_loopg [65, 59] X.n (fun g v65 v59 wr => ∃ (i : Nat) (t : Int), v65 = .int .i64 (i : Int) ∧ v59 = .int .i64 t ∧ i ≤ X.n ∧ Hid (g = X.n - i ∧ BestP X (W (parB X) s j) i t ∧ MR X z wz wr s))
  case atStart => exact ⟨0, -1, rfl, rfl, Nat.zero_le _, by omega, Or.inl ⟨rfl, fun k hk => by omega⟩, HM.out⟩
  case round =>
    obtain ⟨i, t, rfl, rfl, hi, HR⟩ := hrel
    by_cases hlt : i < X.n
    · have HTR : Hid (t = -1 ∨ ∃ tn : Nat, t = (tn : Int) ∧ tn < X.n) := by
        rcases HR.out.2.1 with ⟨h1, _⟩ | ⟨tn, h1, h2, h3, _⟩
        · exact Or.inl h1
        · exact Or.inr ⟨tn, h1, by omega⟩
      have zi : (i : Int) < (X.n : Int) := by omega
      have HRM : Hid (MR X z wz wr s) := HR.out.2.2
      have c24 : wr.cell? ⟨bj, i, none⟩ = some (.int .i64 (X.job i : Int)) := HRM.out.fr.cell (HC.out.j.cell hlt) (by simp)
      have c41 : wr.cell? ⟨z + 1, i, none⟩ = some (.bool (s.arrived i)) := HRM.out.r1.cell hlt
      have c42 : wr.cell? ⟨z + 2, i, none⟩ = some (.bool (s.started i)) := HRM.out.r2.cell hlt
      obtain ⟨bA, hbA0⟩ : ∃ b, s.arrived i = b := ⟨_, rfl⟩
      obtain ⟨bS, hbS0⟩ : ∃ b, s.started i = b := ⟨_, rfl⟩
      rw [hbA0] at c41
      rw [hbS0] at c42
      have hbA : Hid (s.arrived i = bA) := hbA0
      have hbS : Hid (s.started i = bS) := hbS0
      clear hbA0 hbS0
      obtain ⟨c1, hc1⟩ : ∃ c, c = gB X s j i t := ⟨_, rfl⟩
      have HC1 : Hid (c1 = gB X s j i t) := hc1
      clear hc1
      go_upto_region 111 with fail
      go_cut [514] from 486 to 513 (fun v wx => v = .bool c1 ∧ ∃ q, wx = wr.drewN q)
      case first =>
        have hc1 := HC1.out
        unfold gB at hc1
        by_cases hj : X.job i = j
        · rw [hj] at c24
          rw [decide_eq_true hj] at hc1
          cases bA with
          | false => (have e1 : c1 = false := by rw [hc1, hbA.out]; rfl); clear hc1 hj; subst e1; go_wp2; go_meet; exact ⟨rfl, 0, rfl⟩
          | true =>
            cases bS with
            | true => (have e1 : c1 = false := by rw [hc1, hbA.out, hbS.out]; rfl); clear hc1 hj; subst e1; go_wp2; go_meet; exact ⟨rfl, 0, rfl⟩
            | false =>
              rcases HTR.out with ht | ⟨tn, ht, htn⟩
              · have e1 : c1 = true := by rw [hc1, hbA.out, hbS.out, ht]; rfl
                clear hc1 hj
                subst e1 ht
                go_wp2
                go_meet
                exact ⟨rfl, 0, rfl⟩
              · have hbf := mr_before HX.out HC.out HRM.out hlt htn
                have hd : decide ((tn : Int) < 0) = false := decide_eq_false (by omega)
                have e1 : c1 = ltB X i tn := by rw [hc1, hbA.out, hbS.out, ht, hd]; simp
                clear hc1 hj
                rw [← e1] at hbf
                clear e1
                subst ht
                go_wp2_with (first | (go_at_call 14; refine hbf.mono ?_; clear hbf; rintro e w1 ⟨rfl, q, rfl⟩))
                go_meet
                exact ⟨rfl, q, rfl⟩
        · have e1 : c1 = false := by rw [hc1, decide_eq_false hj]; rfl
          have hne : ¬ (X.job i : Int) = (j : Int) := by omega
          generalize (X.job i : Int) = jb at c24 hne
          clear hc1 hj
          subst e1
          go_wp2
          go_meet
          exact ⟨rfl, 0, rfl⟩
      case rest =>
      obtain ⟨rfl, q, rfl⟩ := hcut
      obtain ⟨wr1, hwr1⟩ : ∃ Y, wr.drewN q = Y := ⟨_, rfl⟩
      have HR1 : Hid (MR X z wz wr1 s) := by rw [← hwr1]; exact HRM.out.drew q
      rw [hwr1]
      clear hwr1
      cases c1 with
      | false =>
        have HB : Hid (BestP X (W (parB X) s j) (i + 1) t) := bp_skip HR.out.2.1 (gB_false HTR.out HC1.out.symm)
        go_wp2
        go_roundg (X.n - (i + 1))
        case measure => have := HR.out.1; omega
        case rel => exact ⟨i + 1, t, rfl, rfl, by omega, rfl, HB.out, HR1.out⟩
      | true =>
        have hg := gB_true hlt HTR.out HC1.out.symm
        have HB : Hid (BestP X (W (parB X) s j) (i + 1) (i : Int)) := bp_take HR.out.2.1 hg.1 hg.2
        clear hg
        go_wp2
        go_roundg (X.n - (i + 1))
        case measure => have := HR.out.1; omega
        case rel => exact ⟨i + 1, (i : Int), rfl, rfl, by omega, rfl, HB.out, HR1.out⟩
    · have ei : i = X.n := by omega
      have zi : ¬ (i : Int) < (X.n : Int) := by omega
      have HE : Hid (BestP X (W (parB X) s j) X.n t) := by rw [← ei]; exact HR.out.2.1
      clear ei
      go_wp2
      exact hK _ _ t ⟨rfl, rfl, rfl, rfl, rfl, rfl, rfl, rfl, rfl, rfl, rfl, rfl, rfl, rfl, rfl, rfl, rfl, rfl, rfl, rfl, rfl, rfl, rfl, rfl, rfl, rfl, rfl, rfl⟩ rfl rfl rfl rfl rfl HE.out HR.out.2.2
end Go.Proofs.Ybulkdpsg

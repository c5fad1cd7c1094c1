/- S5830C: the law: those that end. -/
import Derived.Test.YbulkdpsgZ3
namespace Go.Proofs.Ybulkdpsg
open Go Go.RowKit Go.Sort Go.Proofs Go.Lib
set_option linter.unusedVariables false
set_option linter.unusedSimpArgs false
set_option maxRecDepth 100000 in
set_option maxHeartbeats 16000000 in
theorem law_end {X : Inp} (hX : InpOk X) {z bj bk bd ba bru bx bn now : Nat} {wz w : World} {s : MS} {a : Act} {K : Act → World → Prop} {Q : Exit → Act → World → Prop} (E : Env X z bj bk bd ba bru bx bn a) (C : Cst X bj bk bd ba wz) (M : MR X z wz w s) (hnow : s.now = now) (s53 : sl a 53 = .int .i64 (now : Int)) (s54 : sl a 54 = .int .i64 ((cnt X.n s.ended : Nat) : Int)) (s56 : sl a 56 = .int .i64 0)
    (hK : ∀ a' w', Env X z bj bk bd ba bru bx bn a' → sl a' 53 = .int .i64 (now : Int) → sl a' 54 = .int .i64 ((cnt X.n (endAll s).ended : Nat) : Int) → sl a' 55 = sl a 55 → MR X z wz w' (endAll s) → K a' w') :
    Code.wp Yba.prog (.block 14 (blk 14)) (Exit.then K Q) a w := by
  obtain ⟨u, hu, ha⟩ := act817 E.hd E.hs
  have e14 := (hu 14).trans E.s14
  have e15 := (hu 15).trans E.s15
  have e16 := (hu 16).trans E.s16
  have e18 := (hu 18).trans E.s18
  have e19 := (hu 19).trans E.s19
  have e21 := (hu 21).trans E.s21
  have e24 := (hu 24).trans E.s24
  have e25 := (hu 25).trans E.s25
  have e26 := (hu 26).trans E.s26
  have e27 := (hu 27).trans E.s27
  have e32 := (hu 32).trans E.s32
  have e33 := (hu 33).trans E.s33
  have e35 := (hu 35).trans E.s35
  have e38 := (hu 38).trans E.s38
  have e39 := (hu 39).trans E.s39
  have e41 := (hu 41).trans E.s41
  have e42 := (hu 42).trans E.s42
  have e43 := (hu 43).trans E.s43
  have e44 := (hu 44).trans E.s44
  have e45 := (hu 45).trans E.s45
  have e46 := (hu 46).trans E.s46
  have e47 := (hu 47).trans E.s47
  have e48 := (hu 48).trans E.s48
  have e50 := (hu 50).trans E.s50
  have e51 := (hu 51).trans E.s51
  have e52 := (hu 52).trans E.s52
  have e53 := (hu 53).trans s53
  have e54 := (hu 54).trans s54
  have e56 := (hu 56).trans s56
  have h55 : sl a 55 = u 55 := (hu 55).symm
  rw [h55] at hK
  clear E hu s53 s54 s56 h55
  subst ha
  simp only [e14, e15, e16, e18, e19, e21, e24, e25, e26, e27, e32, e33, e35, e38, e39, e41, e42, e43, e44, e45, e46, e47, e48, e50, e51, e52, e53, e54, e56, slc]
  clear e14 e15 e16 e18 e19 e21 e24 e25 e26 e27 e32 e33 e35 e38 e39 e41 e42 e43 e44 e45 e46 e47 e48 e50 e51 e52 e53 e54 e56
  conv => arg 2; arg 2; whnf
  have mixed := mixedYba
  have hn := hX.b1
  have HX : Hid (InpOk X) := hX
  have HC : Hid (Cst X bj bk bd ba wz) := C
  have HM : Hid (MR X z wz w s) := M
  have HNOW : Hid (s.now = now) := hnow
  clear hX C M hnow
  go_wp2_with fail
  go_loopg [56, 54] X.n (fun g v56 v54 wr => ∃ i dn : Nat, v56 = .int .i64 (i : Int) ∧ v54 = .int .i64 (dn : Int) ∧ i ≤ X.n ∧ Hid (g = X.n - i ∧ dn = cnt X.n (endTo s i).ended ∧ MR X z wz wr (endTo s i)))
  case atStart => exact ⟨0, _, rfl, rfl, Nat.zero_le _, by omega, by rw [endTo_zero], by rw [endTo_zero]; exact HM.out⟩
  case round =>
    obtain ⟨i, dn, rfl, rfl, hi, HR⟩ := hrel
    have hdn : dn ≤ 2048 := by rw [HR.out.2.1]; have := cnt_le X.n (endTo s i).ended; omega
    by_cases hlt : i < X.n
    · have zi : (i : Int) < (X.n : Int) := by omega
      have hk := HX.out.k i hlt
      have c42 : wr.cell? ⟨z + 2, i, none⟩ = some (.bool (s.started i)) := HR.out.2.2.r2.cell hlt
      have c43 : wr.cell? ⟨z + 3, i, none⟩ = some (.bool (s.ended i)) := by have := HR.out.2.2.r3.cell hlt; rw [this, endTo_ended]
      have f43 := HR.out.2.2.r3.frozen i
      have c46 : wr.cell? ⟨z + 6, i, none⟩ = some (.int .i64 (s.en i : Int)) := HR.out.2.2.r6.cell hlt
      by_cases hc : s.started i = true ∧ s.ended i = false ∧ s.en i = now
      · obtain ⟨hs, he, hen⟩ := hc
        rw [hs] at c42
        rw [he] at c43
        rw [hen] at c46
        have HC3 : Hid (s.started i = true ∧ s.ended i = false ∧ s.en i = now) := ⟨hs, he, hen⟩
        have hwk : s.wk i < X.nW := HM.out.mi.fw i hs
        have HST : Hid _ := HR.out.2.2.endStep hlt hk.1 hs (by rw [endTo_ended]; exact he)
        have hcn : cnt X.n (endTo s (i + 1)).ended = dn + 1 := by
          rw [endTo_yes hs (by rw [HNOW.out]; exact hen), HR.out.2.1]
          exact cnt_add X.n hlt (by rw [endTo_ended]; exact he) (upd_same _ _ _) (fun j _ hne => upd_other _ _ hne)
        have HCN : Hid (dn + 1 = cnt X.n (endTo s (i + 1)).ended) := hcn.symm
        obtain ⟨wk, hwk2⟩ : ∃ x, x = s.wk i := ⟨_, rfl⟩
        obtain ⟨fv, hfv⟩ : ∃ x, x = fr (parB X) (endTo s i) wk := ⟨_, rfl⟩
        obtain ⟨iv, hiv⟩ : ∃ x, x = infl (parB X) (endTo s i) (X.job i) := ⟨_, rfl⟩
        have hfv4 : fv ≤ 3 := by rw [hfv]; unfold fr; have := HX.out.b3; show X.nS - _ ≤ 3; omega
        have hiv2 : iv ≤ 2048 := by rw [hiv]; have : infl (parB X) (endTo s i) (X.job i) ≤ X.n := cnt_le _ _; omega
        have hst3 := HST.out
        rw [show (endTo s i).wk i = wk from hwk2.symm, ← hfv, ← hiv] at hst3
        rw [← hwk2] at hwk
        obtain ⟨W1, hW1⟩ : ∃ Y, wr.setCell ⟨z + 3, i, none⟩ (.bool true) = Y := ⟨_, rfl⟩
        obtain ⟨W2, hW2⟩ : ∃ Y, W1.setCell ⟨z + 8, wk, none⟩ (.int .i64 ((fv : Int) + 1)) = Y := ⟨_, rfl⟩
        obtain ⟨W3, hW3⟩ : ∃ Y, W2.setCell ⟨z + 10, X.job i, none⟩ (.int .i64 ((iv : Int) - 1)) = Y := ⟨_, rfl⟩
        rw [hW1, hW2, hW3] at hst3
        have HS3 : Hid (MR X z wz W3 (endOne (endTo s i) i)) := hst3
        have q1 : W1.rowIs (z + 7) 3 X.n (fun i => .int .i64 (s.wk i : Int)) := by rw [← hW1]; exact HR.out.2.2.r7.so (by omega) _
        have c47 : W1.cell? ⟨z + 7, i, none⟩ = some (.int .i64 (wk : Int)) := by have := q1.cell hlt; rw [this, hwk2]
        have q2 : W1.rowIs (z + 8) 3 X.nW (fun v => .int .i64 (fr (parB X) (endTo s i) v : Int)) := by rw [← hW1]; exact HR.out.2.2.r8.so (by omega) _
        have c48 : W1.cell? ⟨z + 8, wk, none⟩ = some (.int .i64 (fv : Int)) := by have := q2.cell hwk; rw [this, hfv]
        have f48 := q2.frozen wk
        have q3 : W2.rowIs (z + 10) 3 X.nJ (fun j => .int .i64 (infl (parB X) (endTo s i) j : Int)) := by rw [← hW2, ← hW1]; exact (HR.out.2.2.r10.so (by omega) _).so (by omega) _
        have c51 : W2.cell? ⟨z + 10, X.job i, none⟩ = some (.int .i64 (iv : Int)) := by have := q3.cell hk.1; rw [this, hiv]
        have f51 := q3.frozen (X.job i)
        have c24 : W2.cell? ⟨bj, i, none⟩ = some (.int .i64 (X.job i : Int)) := by rw [← hW2, ← hW1]; exact (fr_upd (fr_upd HR.out.2.2.fr (by rw [HR.out.2.2.zs]; omega) _) (by rw [HR.out.2.2.zs]; omega) _).cell (HC.out.j.cell hlt) (by simp)
        have zj : (X.job i : Int) < (X.nJ : Int) := by have := hk.1; omega
        have zw : (wk : Int) < (X.nW : Int) := by omega
        clear hs he hen hcn HST hst3 q1 q2 q3 hwk2 hfv hiv
        go_wp2
        go_roundg (X.n - (i + 1))
        case measure => have := HR.out.1; omega
        case rel => exact ⟨i + 1, dn + 1, rfl, rfl, by omega, rfl, HCN.out, by rw [endTo_yes HC3.out.1 (by rw [HNOW.out]; exact HC3.out.2.2)]; exact HS3.out⟩
      · have HN : Hid (endTo s (i + 1) = endTo s i) := endTo_no (fun hh => hc ⟨hh.1, hh.2.1, by rw [← HNOW.out]; exact hh.2.2⟩)
        cases hs : s.started i with
        | false =>
          rw [hs] at c42
          clear hs hc
          go_wp2
          go_roundg (X.n - (i + 1))
          case measure => have := HR.out.1; omega
          case rel => exact ⟨i + 1, dn, rfl, rfl, by omega, rfl, by rw [HN.out]; exact HR.out.2.1, by rw [HN.out]; exact HR.out.2.2⟩
        | true =>
          rw [hs] at c42
          cases he : s.ended i with
          | true =>
            rw [he] at c43
            clear hs he hc
            go_wp2
            go_roundg (X.n - (i + 1))
            case measure => have := HR.out.1; omega
            case rel => exact ⟨i + 1, dn, rfl, rfl, by omega, rfl, by rw [HN.out]; exact HR.out.2.1, by rw [HN.out]; exact HR.out.2.2⟩
          | false =>
            rw [he] at c43
            have hne : ¬ (s.en i : Int) = (now : Int) := fun hh => hc ⟨hs, he, by omega⟩
            generalize (s.en i : Int) = ent at c46 hne
            clear hs he hc
            go_wp2
            go_roundg (X.n - (i + 1))
            case measure => have := HR.out.1; omega
            case rel => exact ⟨i + 1, dn, rfl, rfl, by omega, rfl, by rw [HN.out]; exact HR.out.2.1, by rw [HN.out]; exact HR.out.2.2⟩
    · have ei : i = X.n := by omega
      have zi : ¬ (i : Int) < (X.n : Int) := by omega
      have HE : Hid (i = X.n) := ei
      have hall : endTo s X.n = endAll s := endTo_all (P := parB X) HM.out.mi
      have HALL : Hid (endTo s i = endAll s ∧ dn = cnt X.n (endAll s).ended) := by rw [ei, ← hall]; exact ⟨rfl, by rw [HR.out.2.1, ei]⟩
      clear ei hall
      go_wp2
      refine hK _ _ ⟨rfl, rfl, rfl, rfl, rfl, rfl, rfl, rfl, rfl, rfl, rfl, rfl, rfl, rfl, rfl, rfl, rfl, rfl, rfl, rfl, rfl, rfl, rfl, rfl, rfl, rfl, rfl, rfl⟩ rfl (by rw [← HALL.out.2]; rfl) rfl ?_
      have := HR.out.2.2
      rw [HALL.out.1] at this
      exact this
end Go.Proofs.Ybulkdpsg

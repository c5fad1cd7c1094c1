/- S5830C: the law: the job to start a task of. -/
import Derived.Test.YbulkdpsgZ3
namespace Go.Proofs.Ybulkdpsg
open Go Go.RowKit Go.Sort Go.Proofs Go.Lib
set_option linter.unusedVariables false
set_option linter.unusedSimpArgs false
set_option maxRecDepth 100000 in
set_option maxHeartbeats 16000000 in
theorem law_job {X : Inp} (hX : InpOk X) {z bj bk bd ba bru bx bn now : Nat} {wz w : World} {s : MS} {a : Act} {K : Act → World → Prop} {Q : Exit → Act → World → Prop} (E : Env X z bj bk bd ba bru bx bn a) (C : Cst X bj bk bd ba wz) (M : MR X z wz w s) (hnow : s.now = now) (s53 : sl a 53 = .int .i64 (now : Int)) (s61 : sl a 61 = .int .i64 (-1)) (s62 : sl a 62 = .int .i64 0)
    (hK : ∀ a' w', Env X z bj bk bd ba bru bx bn a' → sl a' 53 = .int .i64 (now : Int) → sl a' 54 = sl a 54 → sl a' 55 = sl a 55 → sl a' 58 = sl a 58 → sl a' 59 = sl a 59 → sl a' 60 = sl a 60 → sl a' 61 = .int .i64 (ruQ (wait (parB X) s) (infl (parB X) s) X.nJ) → MR X z wz w' s → K a' w') :
    Code.wp Yba.prog (.block 20 (blk 20)) (Exit.then K Q) a w := by
  obtain ⟨u, hu, ha⟩ := act817 E.hd E.hs
  have e14 := (hu 14).trans E.s14
  have e15 := (hu 15).trans E.s15
  have e16 := (hu 16).trans E.s16
  have e18 := (hu 18).trans E.s18
  have e19 := (hu 19).trans E.s19
  have e21 := (hu 21).trans E.s21
  have e24 := (hu 24).trans E.s24
  have e25 := (hu 25).trans E.s25
  have e26 := (hu 26).trans E.s26
  have e27 := (hu 27).trans E.s27
  have e32 := (hu 32).trans E.s32
  have e33 := (hu 33).trans E.s33
  have e35 := (hu 35).trans E.s35
  have e38 := (hu 38).trans E.s38
  have e39 := (hu 39).trans E.s39
  have e41 := (hu 41).trans E.s41
  have e42 := (hu 42).trans E.s42
  have e43 := (hu 43).trans E.s43
  have e44 := (hu 44).trans E.s44
  have e45 := (hu 45).trans E.s45
  have e46 := (hu 46).trans E.s46
  have e47 := (hu 47).trans E.s47
  have e48 := (hu 48).trans E.s48
  have e50 := (hu 50).trans E.s50
  have e51 := (hu 51).trans E.s51
  have e52 := (hu 52).trans E.s52
  have e53 := (hu 53).trans s53
  have e61 := (hu 61).trans s61
  have e62 := (hu 62).trans s62
  have h54 : sl a 54 = u 54 := (hu 54).symm
  have h55 : sl a 55 = u 55 := (hu 55).symm
  have h58 : sl a 58 = u 58 := (hu 58).symm
  have h59 : sl a 59 = u 59 := (hu 59).symm
  have h60 : sl a 60 = u 60 := (hu 60).symm
  rw [h54, h55, h58, h59, h60] at hK
  clear E hu s53 s61 s62 h54 h55 h58 h59 h60
  subst ha
  simp only [e14, e15, e16, e18, e19, e21, e24, e25, e26, e27, e32, e33, e35, e38, e39, e41, e42, e43, e44, e45, e46, e47, e48, e50, e51, e52, e53, e61, e62, slc]
  clear e14 e15 e16 e18 e19 e21 e24 e25 e26 e27 e32 e33 e35 e38 e39 e41 e42 e43 e44 e45 e46 e47 e48 e50 e51 e52 e53 e61 e62
  conv => arg 2; arg 2; whnf
  have mixed := mixedYba
  have hn := hX.b1
  have hJ := hX.b4
  have HM : Hid (MR X z wz w s) := M
  clear hX C M hnow
  go_wp2_with fail
  go_loopg [62, 61] X.nJ (fun g v62 v61 wr => ∃ (j : Nat) (b : Int), v62 = .int .i64 (j : Int) ∧ v61 = .int .i64 b ∧ j ≤ X.nJ ∧ Hid (g = X.nJ - j ∧ b = ruQ (wait (parB X) s) (infl (parB X) s) j ∧ MR X z wz wr s))
  case atStart => exact ⟨0, -1, rfl, rfl, Nat.zero_le _, by omega, rfl, HM.out⟩
  case round =>
    obtain ⟨j, b, rfl, rfl, hj, HR⟩ := hrel
    by_cases hlt : j < X.nJ
    · have zj : (j : Int) < (X.nJ : Int) := by omega
      have hrng : b = -1 ∨ ∃ c : Nat, b = (c : Int) ∧ c < j := by
        rw [HR.out.2.1]
        rcases ruQ_rng (wait (parB X) s) (infl (parB X) s) j with ⟨h1, _⟩ | ⟨c, h1, h2, _⟩
        · exact Or.inl h1
        · exact Or.inr ⟨c, h1, h2⟩
      have HST : Hid (ruQ (wait (parB X) s) (infl (parB X) s) (j + 1) = ruQ1 (wait (parB X) s) (infl (parB X) s) b j) := by show _ = _; rw [ruQ_succ, HR.out.2.1]
      have c52 : wr.cell? ⟨z + 11, j, none⟩ = some (.int .i64 (wait (parB X) s j : Int)) := HR.out.2.2.r11.cell hlt
      have c51 : wr.cell? ⟨z + 10, j, none⟩ = some (.int .i64 (infl (parB X) s j : Int)) := HR.out.2.2.r10.cell hlt
      by_cases hw : wait (parB X) s j = 0
      · rw [hw] at c52
        have HU : Hid (ruQ1 (wait (parB X) s) (infl (parB X) s) b j = b) := by show _ = _; unfold ruQ1; rw [if_neg (by omega)]
        clear hw hrng
        go_wp2_with fail
        go_quiet (fail)
        go_wp2
        go_roundg (X.nJ - (j + 1))
        case measure => have := HR.out.1; omega
        case rel => exact ⟨j + 1, b, rfl, rfl, by omega, rfl, by rw [HST.out, HU.out], HR.out.2.2.drew _⟩
      · have hd1 : decide ((wait (parB X) s j : Int) > 0) = true := decide_eq_true (by omega)
        have hd2 : decide ((0 : Int) < (wait (parB X) s j : Int)) = true := decide_eq_true (by omega)
        have hd3 : decide (0 < wait (parB X) s j) = true := decide_eq_true (by omega)
        have HW : Hid (0 < wait (parB X) s j) := by show 0 < _; omega
        generalize (wait (parB X) s j) = wt at c52 hd1 hd2 hd3
        rcases hrng with hb | ⟨c, hb, hcj⟩
        · have HU : Hid (ruQ1 (wait (parB X) s) (infl (parB X) s) b j = (j : Int)) := by show _ = _; unfold ruQ1; rw [if_pos ⟨HW.out, Or.inl (by omega)⟩]
          subst hb
          go_wp2_with fail
          go_quiet (fail)
          go_wp2
          go_roundg (X.nJ - (j + 1))
          case measure => have := HR.out.1; omega
          case rel => exact ⟨j + 1, (j : Int), rfl, rfl, by omega, rfl, by rw [HST.out, HU.out], HR.out.2.2.drew _⟩
        · have c51c : wr.cell? ⟨z + 10, c, none⟩ = some (.int .i64 (infl (parB X) s c : Int)) := HR.out.2.2.r10.cell (by omega)
          have zc : (c : Int) < (X.nJ : Int) := by omega
          have hcn : decide ((c : Int) < 0) = false := decide_eq_false (by omega)
          by_cases hl : infl (parB X) s j < infl (parB X) s c
          · have HU : Hid (ruQ1 (wait (parB X) s) (infl (parB X) s) b j = (j : Int)) := by show _ = _; unfold ruQ1; rw [if_pos ⟨HW.out, Or.inr (by rw [hb]; simpa using hl)⟩]
            have hd4 : decide ((infl (parB X) s j : Int) < (infl (parB X) s c : Int)) = true := decide_eq_true (by omega)
            have hd5 : decide (infl (parB X) s j < infl (parB X) s c) = true := decide_eq_true hl
            subst hb
            generalize infl (parB X) s j = i1 at c51 hd4 hd5
            generalize infl (parB X) s c = i2 at c51c hd4 hd5
            clear hl
            go_wp2_with fail
            go_quiet (fail)
            go_wp2
            go_roundg (X.nJ - (j + 1))
            case measure => have := HR.out.1; omega
            case rel => exact ⟨j + 1, (j : Int), rfl, rfl, by omega, rfl, by rw [HST.out, HU.out], HR.out.2.2.drew _⟩
          · have HU : Hid (ruQ1 (wait (parB X) s) (infl (parB X) s) b j = b) := by
              show _ = _
              unfold ruQ1
              rw [if_neg (fun hh => by rcases hh.2 with h1 | h1; omega; rw [hb] at h1; simp at h1; omega)]
            have hd4 : decide ((infl (parB X) s j : Int) < (infl (parB X) s c : Int)) = false := decide_eq_false (by omega)
            have hd5 : decide (infl (parB X) s j < infl (parB X) s c) = false := decide_eq_false hl
            subst hb
            generalize infl (parB X) s j = i1 at c51 hd4 hd5
            generalize infl (parB X) s c = i2 at c51c hd4 hd5
            clear hl
            go_wp2_with fail
            go_quiet (fail)
            go_wp2
            go_roundg (X.nJ - (j + 1))
            case measure => have := HR.out.1; omega
            case rel => exact ⟨j + 1, (c : Int), rfl, rfl, by omega, rfl, by rw [HST.out, HU.out], HR.out.2.2.drew _⟩
    · have ei : j = X.nJ := by omega
      have zi : ¬ (j : Int) < (X.nJ : Int) := by omega
      have HE : Hid (b = ruQ (wait (parB X) s) (infl (parB X) s) X.nJ) := by rw [← ei]; exact HR.out.2.1
      clear ei
      go_wp2
      exact hK _ _ ⟨rfl, rfl, rfl, rfl, rfl, rfl, rfl, rfl, rfl, rfl, rfl, rfl, rfl, rfl, rfl, rfl, rfl, rfl, rfl, rfl, rfl, rfl, rfl, rfl, rfl, rfl, rfl, rfl⟩ rfl rfl rfl rfl rfl rfl (by rw [← HE.out]; rfl) HR.out.2.2
end Go.Proofs.Ybulkdpsg

/- S5830C: the law: the pinned placement's search. -/
import Derived.Test.YbulkdpsgZ9
namespace Go.Proofs.Ybulkdpsg
open Go Go.RowKit Go.Sort Go.Proofs Go.Lib
set_option linter.unusedVariables false
set_option linter.unusedSimpArgs false
def gP (X : Inp) (s : MS) (u i : Nat) (t : Int) : Bool := s.arrived i && !s.started i && decide (ownK X.nW (X.key i) = u) && (decide (t < 0) || ltB X i t.toNat)
theorem gP_true {X : Inp} {s : MS} {u i : Nat} {t : Int} (hi : i < X.n) (ht : t = -1 ∨ ∃ tn : Nat, t = (tn : Int) ∧ tn < X.n) (h : gP X s u i t = true) : WP (parB X) s u i ∧ (t = -1 ∨ ∃ tn : Nat, t = (tn : Int) ∧ (parB X).lt i tn) := by
  unfold gP at h
  simp only [Bool.and_eq_true, decide_eq_true_eq, Bool.or_eq_true, Bool.not_eq_eq_eq_not, Bool.not_true] at h
  refine ⟨⟨hi, h.1.2, h.1.1.1, h.1.1.2⟩, ?_⟩
  rcases ht with ht | ⟨tn, ht, _⟩
  · exact Or.inl ht
  · rcases h.2 with h2 | h2
    · omega
    · rw [ht] at h2
      exact Or.inr ⟨tn, ht, ltB_iff.1 h2⟩
theorem gP_false {X : Inp} {s : MS} {u i : Nat} {t : Int} (ht : t = -1 ∨ ∃ tn : Nat, t = (tn : Int) ∧ tn < X.n) (h : gP X s u i t = false) : ¬ WP (parB X) s u i ∨ ∃ tn : Nat, t = (tn : Int) ∧ ¬ (parB X).lt i tn := by
  by_cases hw : WP (parB X) s u i
  · right
    have hj : ownK X.nW (X.key i) = u := hw.2.1
    unfold gP at h
    rw [hw.2.2.1, hw.2.2.2, decide_eq_true hj] at h
    simp only [Bool.true_and, Bool.not_false, Bool.or_eq_false_iff] at h
    rcases ht with ht | ⟨tn, ht, _⟩
    · rw [ht] at h; simp at h
    · refine ⟨tn, ht, ?_⟩
      rw [ht] at h
      intro hh
      have h2 : ltB X i tn = false := h.2
      rw [ltB_iff.2 hh] at h2; cases h2
  · exact Or.inl hw
/-- What the search among the workers up to u has found. -/
def PinR (X : Inp) (s : MS) (u : Nat) (t v : Int) : Prop := (t = -1 ∧ v = -1 ∧ ∀ u', u' < u → 0 < fr (parB X) s u' → ∀ k, ¬ WP (parB X) s u' k) ∨ ∃ tn vn : Nat, t = (tn : Int) ∧ v = (vn : Int) ∧ tn < X.n ∧ PickP (parB X) s tn vn
theorem pin_skip {X : Inp} {s : MS} {u : Nat} {v : Int} (h : PinR X s u (-1) v) (hn : fr (parB X) s u = 0 ∨ ∀ k, ¬ WP (parB X) s u k) : PinR X s (u + 1) (-1) v := by
  rcases h with ⟨h1, h2, h3⟩ | ⟨tn, vn, h1, _⟩
  · refine Or.inl ⟨rfl, h2, fun u' hu hf k => ?_⟩
    by_cases e : u' = u
    · subst e
      rcases hn with hn | hn
      · omega
      · exact hn k
    · exact h3 u' (by omega) hf k
  · omega
theorem pin_take {X : Inp} {s : MS} {u tn : Nat} {v : Int} (h : PinR X s u (-1) v) (hu : u < X.nW) (hf : 0 < fr (parB X) s u) (hb : BestP X (WP (parB X) s u) X.n (tn : Int)) (htn : tn < X.n) : PinR X s (u + 1) (tn : Int) (u : Int) := by
  rcases h with ⟨h1, h2, h3⟩ | ⟨_, _, h1, _⟩
  · rcases hb with ⟨h4, _⟩ | ⟨tn', h4, h5, h6, h7⟩
    · omega
    · have : tn' = tn := by omega
      subst this
      exact Or.inr ⟨tn', u, rfl, rfl, htn, hu, hf, h6, fun t' ht' => h7 t' ht'.1 ht', fun u' hu' hf' t' => h3 u' hu' hf' t'⟩
  · omega
set_option maxRecDepth 100000 in
set_option maxHeartbeats 16000000 in
theorem law_pin {X : Inp} (hX : InpOk X) {z bj bk bd ba bru bx bn now : Nat} {wz w : World} {s : MS} {a : Act} {K : Act → World → Prop} {Q : Exit → Act → World → Prop} (E : Env X z bj bk bd ba bru bx bn a) (C : Cst X bj bk bd ba wz) (M : MR X z wz w s) (hnow : s.now = now) (s53 : sl a 53 = .int .i64 (now : Int)) (s59 : sl a 59 = .int .i64 (-1)) (s60 : sl a 60 = .int .i64 (-1)) (s66 : sl a 66 = .int .i64 0)
    (hK : ∀ a' w' (t v : Int), Env X z bj bk bd ba bru bx bn a' → sl a' 53 = .int .i64 (now : Int) → sl a' 54 = sl a 54 → sl a' 55 = sl a 55 → sl a' 58 = sl a 58 → sl a' 59 = .int .i64 t → sl a' 60 = .int .i64 v → PinR X s X.nW t v → MR X z wz w' s → K a' w') :
    Code.wp Yba.prog (.block 26 (blk 26)) (Exit.then K Q) a w := by
  obtain ⟨u, hu, ha⟩ := act817 E.hd E.hs
  have e14 := (hu 14).trans E.s14
  have e15 := (hu 15).trans E.s15
  have e16 := (hu 16).trans E.s16
  have e18 := (hu 18).trans E.s18
  have e19 := (hu 19).trans E.s19
  have e21 := (hu 21).trans E.s21
  have e24 := (hu 24).trans E.s24
  have e25 := (hu 25).trans E.s25
  have e26 := (hu 26).trans E.s26
  have e27 := (hu 27).trans E.s27
  have e32 := (hu 32).trans E.s32
  have e33 := (hu 33).trans E.s33
  have e35 := (hu 35).trans E.s35
  have e38 := (hu 38).trans E.s38
  have e39 := (hu 39).trans E.s39
  have e41 := (hu 41).trans E.s41
  have e42 := (hu 42).trans E.s42
  have e43 := (hu 43).trans E.s43
  have e44 := (hu 44).trans E.s44
  have e45 := (hu 45).trans E.s45
  have e46 := (hu 46).trans E.s46
  have e47 := (hu 47).trans E.s47
  have e48 := (hu 48).trans E.s48
  have e50 := (hu 50).trans E.s50
  have e51 := (hu 51).trans E.s51
  have e52 := (hu 52).trans E.s52
  have e53 := (hu 53).trans s53
  have e59 := (hu 59).trans s59
  have e60 := (hu 60).trans s60
  have e66 := (hu 66).trans s66
  have h54 : sl a 54 = u 54 := (hu 54).symm
  have h55 : sl a 55 = u 55 := (hu 55).symm
  have h58 : sl a 58 = u 58 := (hu 58).symm
  rw [h54, h55, h58] at hK
  clear E hu s53 s59 s60 s66 h54 h55 h58
  subst ha
  simp only [e14, e15, e16, e18, e19, e21, e24, e25, e26, e27, e32, e33, e35, e38, e39, e41, e42, e43, e44, e45, e46, e47, e48, e50, e51, e52, e53, e59, e60, e66, slc]
  clear e14 e15 e16 e18 e19 e21 e24 e25 e26 e27 e32 e33 e35 e38 e39 e41 e42 e43 e44 e45 e46 e47 e48 e50 e51 e52 e53 e59 e60 e66
  conv => arg 2; arg 2; whnf
  have mixed := mixedYba
  have hn := hX.b1
  have hW4 := hX.b2
  have HX : Hid (InpOk X) := hX
  have HC : Hid (Cst X bj bk bd ba wz) := C
  have HM : Hid (MR X z wz w s) := M
  clear hX C M hnow
  go_wp2_with fail
  go_loopg [66, 59, 60] X.nW (fun g v66 v59 v60 wr => ∃ (u : Nat) (t v : Int), v66 = .int .i64 (u : Int) ∧ v59 = .int .i64 t ∧ v60 = .int .i64 v ∧ u ≤ X.nW ∧ Hid (g = X.nW - u ∧ PinR X s u t v ∧ MR X z wz wr s))
  case atStart => exact ⟨0, -1, -1, rfl, rfl, rfl, Nat.zero_le _, by omega, Or.inl ⟨rfl, rfl, fun k hk => by omega⟩, HM.out⟩
  case round =>
    obtain ⟨uw, t, v, rfl, rfl, rfl, hi, HR⟩ := hrel
    have hpin := HR.out.2.1
    rcases hpin with ⟨rfl, hv, hnone⟩ | ⟨tn, vn, rfl, rfl, htn, hpk⟩
    · by_cases hlt : uw < X.nW
      · have zi : (uw : Int) < (X.nW : Int) := by omega
        have HRM : Hid (MR X z wz wr s) := HR.out.2.2
        have c48 : wr.cell? ⟨z + 8, uw, none⟩ = some (.int .i64 (fr (parB X) s uw : Int)) := HRM.out.r8.cell hlt
        clear hnone hv
        by_cases hf0 : fr (parB X) s uw = 0
        · rw [hf0] at c48
          have HB : Hid (PinR X s (uw + 1) (-1) v) := pin_skip HR.out.2.1 (Or.inl hf0)
          clear hf0
          go_wp2
          go_roundg (X.nW - (uw + 1))
          case measure => have := HR.out.1; omega
          case rel => exact ⟨uw + 1, -1, v, rfl, rfl, rfl, by omega, rfl, HB.out, HRM.out⟩
        · have HF : Hid (0 < fr (parB X) s uw) := by show 0 < _; omega
          have hd1 : decide ((fr (parB X) s uw : Int) > 0) = true := decide_eq_true (by omega)
          have hd2 : decide ((0 : Int) < (fr (parB X) s uw : Int)) = true := decide_eq_true (by omega)
          have hd3 : decide (0 < fr (parB X) s uw) = true := decide_eq_true (by omega)
          generalize fr (parB X) s uw = fv at c48 hd1 hd2 hd3
          clear hf0
          go_wp2_with fail
          clear hd1 hd2 hd3 c48
          go_loopg [67, 59] X.n (fun g v67 v59 wr2 => ∃ (i : Nat) (t : Int), v67 = .int .i64 (i : Int) ∧ v59 = .int .i64 t ∧ i ≤ X.n ∧ Hid (g = X.n - i ∧ BestP X (WP (parB X) s uw) i t ∧ MR X z wz wr2 s))
          case atStart => exact ⟨0, -1, rfl, rfl, Nat.zero_le _, by omega, Or.inl ⟨rfl, fun k hk => by omega⟩, HRM.out⟩
          case round =>
            obtain ⟨i, t, rfl, rfl, hi2, HR2⟩ := hrel
            by_cases hlt2 : i < X.n
            · have HTR : Hid (t = -1 ∨ ∃ tn : Nat, t = (tn : Int) ∧ tn < X.n) := by
                rcases HR2.out.2.1 with ⟨h1, _⟩ | ⟨tn, h1, h2, h3, _⟩
                · exact Or.inl h1
                · exact Or.inr ⟨tn, h1, by omega⟩
              have zi2 : (i : Int) < (X.n : Int) := by omega
              have HRM2 : Hid (MR X z wz wr s) := HR2.out.2.2
              have hk5 := (HX.out.k i hlt2).2.1
              have c25 : wr.cell? ⟨bk, i, none⟩ = some (.int .i64 (X.key i : Int)) := HRM2.out.fr.cell (HC.out.k.cell hlt2) (by simp)
              have c39 : wr.cell? ⟨z, X.key i, none⟩ = some (.int .i64 (ownK X.nW (X.key i) : Int)) := HRM2.out.ro.cell hk5
              have zk : (X.key i : Int) < 5 := by omega
              have c41 : wr.cell? ⟨z + 1, i, none⟩ = some (.bool (s.arrived i)) := HRM2.out.r1.cell hlt2
              have c42 : wr.cell? ⟨z + 2, i, none⟩ = some (.bool (s.started i)) := HRM2.out.r2.cell hlt2
              obtain ⟨bA, hbA0⟩ : ∃ b, s.arrived i = b := ⟨_, rfl⟩
              obtain ⟨bS, hbS0⟩ : ∃ b, s.started i = b := ⟨_, rfl⟩
              rw [hbA0] at c41
              rw [hbS0] at c42
              have hbA : Hid (s.arrived i = bA) := hbA0
              have hbS : Hid (s.started i = bS) := hbS0
              clear hbA0 hbS0
              obtain ⟨c1, hc1⟩ : ∃ c, c = gP X s uw i t := ⟨_, rfl⟩
              have HC1 : Hid (c1 = gP X s uw i t) := hc1
              clear hc1
              go_upto_region 123 with fail
              go_cut [575] from 544 to 574 (fun v wx => v = .bool c1 ∧ ∃ q, wx = wr.drewN q)
              case first =>
                have hc1 := HC1.out
                unfold gP at hc1
                cases bA with
                | false => (have e1 : c1 = false := by rw [hc1, hbA.out]; rfl); clear hc1; subst e1; go_wp2; go_meet; exact ⟨rfl, 0, rfl⟩
                | true =>
                  cases bS with
                  | true => (have e1 : c1 = false := by rw [hc1, hbA.out, hbS.out]; rfl); clear hc1; subst e1; go_wp2; go_meet; exact ⟨rfl, 0, rfl⟩
                  | false =>
                    by_cases hj : ownK X.nW (X.key i) = uw
                    · rw [hj] at c39
                      rw [decide_eq_true hj, hbA.out, hbS.out] at hc1
                      rcases HTR.out with ht | ⟨tn, ht, htn⟩
                      · have e1 : c1 = true := by rw [hc1, ht]; rfl
                        clear hc1 hj
                        subst e1 ht
                        go_wp2
                        go_meet
                        exact ⟨rfl, 0, rfl⟩
                      · have hbf := mr_before HX.out HC.out HRM2.out hlt2 htn
                        have hd : decide ((tn : Int) < 0) = false := decide_eq_false (by omega)
                        have e1 : c1 = ltB X i tn := by rw [hc1, ht, hd]; simp
                        clear hc1 hj
                        rw [← e1] at hbf
                        clear e1
                        subst ht
                        go_wp2_with (first | (go_at_call 14; refine hbf.mono ?_; clear hbf; rintro e w1 ⟨rfl, q, rfl⟩))
                        go_meet
                        exact ⟨rfl, q, rfl⟩
                    · have e1 : c1 = false := by rw [hc1, decide_eq_false hj, hbA.out, hbS.out]; rfl
                      have hne : ¬ (ownK X.nW (X.key i) : Int) = (uw : Int) := by omega
                      generalize (ownK X.nW (X.key i) : Int) = ow at c39 hne
                      clear hc1 hj
                      subst e1
                      go_wp2
                      go_meet
                      exact ⟨rfl, 0, rfl⟩
              case rest =>
              obtain ⟨rfl, q, rfl⟩ := hcut
              obtain ⟨wr1, hwr1⟩ : ∃ Y, wr.drewN q = Y := ⟨_, rfl⟩
              have HR1 : Hid (MR X z wz wr1 s) := by rw [← hwr1]; exact HRM2.out.drew q
              rw [hwr1]
              clear hwr1
              cases c1 with
              | false =>
                have HB : Hid (BestP X (WP (parB X) s uw) (i + 1) t) := bp_skip HR2.out.2.1 (gP_false HTR.out HC1.out.symm)
                go_wp2
                go_roundg (X.n - (i + 1))
                case measure => have := HR2.out.1; omega
                case rel => exact ⟨i + 1, t, rfl, rfl, by omega, rfl, HB.out, HR1.out⟩
              | true =>
                have hg := gP_true hlt2 HTR.out HC1.out.symm
                have HB : Hid (BestP X (WP (parB X) s uw) (i + 1) (i : Int)) := bp_take HR2.out.2.1 hg.1 hg.2
                clear hg
                go_wp2
                go_roundg (X.n - (i + 1))
                case measure => have := HR2.out.1; omega
                case rel => exact ⟨i + 1, (i : Int), rfl, rfl, by omega, rfl, HB.out, HR1.out⟩
            · have ei : i = X.n := by omega
              have zi2 : ¬ (i : Int) < (X.n : Int) := by omega
              have hbp : BestP X (WP (parB X) s uw) X.n t := by rw [← ei]; exact HR2.out.2.1
              have HBP : Hid (BestP X (WP (parB X) s uw) X.n t) := hbp
              clear ei
              rcases hbp with ⟨rfl, hno⟩ | ⟨tn, rfl, htn, _⟩
              · have HB : Hid (PinR X s (uw + 1) (-1) v) := pin_skip HR.out.2.1 (Or.inr (fun k hk => hno k hk.1 hk))
                clear hno
                go_wp2
                go_roundg (X.nW - (uw + 1))
                case measure => have := HR.out.1; omega
                case rel => exact ⟨uw + 1, -1, v, rfl, rfl, rfl, by omega, rfl, HB.out, HR2.out.2.2⟩
              · have HB : Hid (PinR X s (uw + 1) (tn : Int) (uw : Int)) := pin_take HR.out.2.1 hlt HF.out HBP.out htn
                have hd1 : decide ((tn : Int) ≥ 0) = true := decide_eq_true (by omega)
                have hd2 : decide ((0 : Int) ≤ (tn : Int)) = true := decide_eq_true (by omega)
                go_wp2
                go_roundg (X.nW - (uw + 1))
                case measure => have := HR.out.1; omega
                case rel => exact ⟨uw + 1, (tn : Int), (uw : Int), rfl, rfl, rfl, by omega, rfl, HB.out, HR2.out.2.2⟩
      · have ei : uw = X.nW := by omega
        have zi : ¬ (uw : Int) < (X.nW : Int) := by omega
        have HE : Hid (PinR X s X.nW (-1) v) := by rw [← ei]; exact HR.out.2.1
        clear ei hnone hv
        go_wp2
        exact hK _ _ (-1) v ⟨rfl, rfl, rfl, rfl, rfl, rfl, rfl, rfl, rfl, rfl, rfl, rfl, rfl, rfl, rfl, rfl, rfl, rfl, rfl, rfl, rfl, rfl, rfl, rfl, rfl, rfl, rfl, rfl⟩ rfl rfl rfl rfl rfl rfl HE.out HR.out.2.2
    · have hd : decide ((tn : Int) < 0) = false := decide_eq_false (by omega)
      have HE : Hid (PinR X s X.nW (tn : Int) (vn : Int)) := Or.inr ⟨tn, vn, rfl, rfl, htn, hpk⟩
      clear hpk
      by_cases hlt : uw < X.nW
      · have zi : (uw : Int) < (X.nW : Int) := by omega
        go_wp2
        exact hK _ _ (tn : Int) (vn : Int) ⟨rfl, rfl, rfl, rfl, rfl, rfl, rfl, rfl, rfl, rfl, rfl, rfl, rfl, rfl, rfl, rfl, rfl, rfl, rfl, rfl, rfl, rfl, rfl, rfl, rfl, rfl, rfl, rfl⟩ rfl rfl rfl rfl rfl rfl HE.out HR.out.2.2
      · have zi : ¬ (uw : Int) < (X.nW : Int) := by omega
        go_wp2
        exact hK _ _ (tn : Int) (vn : Int) ⟨rfl, rfl, rfl, rfl, rfl, rfl, rfl, rfl, rfl, rfl, rfl, rfl, rfl, rfl, rfl, rfl, rfl, rfl, rfl, rfl, rfl, rfl, rfl, rfl, rfl, rfl, rfl, rfl⟩ rfl rfl rfl rfl rfl rfl HE.out HR.out.2.2
end Go.Proofs.Ybulkdpsg

/- S5830C: the law: its model runs as the machine does. -/
import Derived.Test.YbulkdpsgZ4
import Derived.Test.YbulkdpsgZ5
import Derived.Test.YbulkdpsgZ6
import Derived.Test.YbulkdpsgZ13
namespace Go.Proofs.Ybulkdpsg
open Go Go.RowKit Go.Sort Go.Proofs Go.Lib
set_option linter.unusedVariables false
set_option linter.unusedSimpArgs false
theorem MR.later {X : Inp} {z : Nat} {wz w : World} {s : MS} (h : MR X z wz w s) {x : Nat} (M : MI (parB X) { s with now := x }) : MR X z wz w { s with now := x } :=
  ⟨h.fr, h.zs, h.gr, h.ro, h.r1, h.r2, h.r3, h.r4, h.r5, h.r6, h.r7, h.r8, h.r9, h.r10, h.r11, M⟩
theorem run_none {X : Inp} (h0 : X.n = 0) : Run (parB X) MS.init MS.init := by
  have e1 : arrAll (parB X) (endAll MS.init) = MS.init := by
    unfold arrAll endAll
    have a1 : (fun i => MS.init.arrived i || (decide (i < (parB X).n) && decide ((parB X).arr i ≤ MS.init.now))) = MS.init.arrived := by
      funext i
      have : ¬ i < (parB X).n := by show ¬ i < X.n; omega
      simp [this]
    have a2 : (fun i => MS.init.ended i || (MS.init.started i && MS.init.en i == MS.init.now)) = MS.init.ended := by funext i; simp [MS.init]
    show ({ MS.init with ended := fun i => MS.init.ended i || (MS.init.started i && MS.init.en i == MS.init.now), arrived := fun i => MS.init.arrived i || (decide (i < (parB X).n) && decide ((parB X).arr i ≤ MS.init.now)) } : MS) = MS.init
    rw [a1, a2]
  refine Run.last (by rw [e1]; exact Starts.stop (noPick_all (fun i hi => by omega))) (fun x hx => ?_)
  rcases hx with ⟨i, h, _⟩ | ⟨i, h, _⟩
  · have : i < X.n := h; omega
  · have : i < X.n := h; omega
set_option maxRecDepth 100000 in
set_option maxHeartbeats 16000000 in
theorem law_model {X : Inp} (hX : InpOk X) {z bj bk bd ba bru bx bn : Nat} {wz w : World} {a : Act} {K : Act → World → Prop} {R : Ending → World → Prop} (E : Env X z bj bk bd ba bru bx bn a) (C : Cst X bj bk bd ba wz) (M : MR X z wz w MS.init) (s53 : sl a 53 = .int .i64 0) (s54 : sl a 54 = .int .i64 0) (s55 : sl a 55 = .int .i64 0)
    (hK : ∀ a' w' (b : MS), Env X z bj bk bd ba bru bx bn a' → sl a' 54 = .int .i64 (X.n : Int) → Run (parB X) MS.init b → MI (parB X) b → (∀ i, i < X.n → b.ended i = true) → MR X z wz w' b → K a' w') :
    Code.wp Yba.prog (.block 12 (blk 12)) (Exit.then K (bodyPost Yba.prog Yba.f4 R)) a w := by
  obtain ⟨u, hu, ha⟩ := act817 E.hd E.hs
  have e14 := (hu 14).trans E.s14
  have e15 := (hu 15).trans E.s15
  have e16 := (hu 16).trans E.s16
  have e18 := (hu 18).trans E.s18
  have e19 := (hu 19).trans E.s19
  have e21 := (hu 21).trans E.s21
  have e24 := (hu 24).trans E.s24
  have e25 := (hu 25).trans E.s25
  have e26 := (hu 26).trans E.s26
  have e27 := (hu 27).trans E.s27
  have e32 := (hu 32).trans E.s32
  have e33 := (hu 33).trans E.s33
  have e35 := (hu 35).trans E.s35
  have e38 := (hu 38).trans E.s38
  have e39 := (hu 39).trans E.s39
  have e41 := (hu 41).trans E.s41
  have e42 := (hu 42).trans E.s42
  have e43 := (hu 43).trans E.s43
  have e44 := (hu 44).trans E.s44
  have e45 := (hu 45).trans E.s45
  have e46 := (hu 46).trans E.s46
  have e47 := (hu 47).trans E.s47
  have e48 := (hu 48).trans E.s48
  have e50 := (hu 50).trans E.s50
  have e51 := (hu 51).trans E.s51
  have e52 := (hu 52).trans E.s52
  have e53 := (hu 53).trans s53
  have e54 := (hu 54).trans s54
  have e55 := (hu 55).trans s55
  clear E hu s53 s54 s55 
  subst ha
  simp only [e14, e15, e16, e18, e19, e21, e24, e25, e26, e27, e32, e33, e35, e38, e39, e41, e42, e43, e44, e45, e46, e47, e48, e50, e51, e52, e53, e54, e55, slc]
  clear e14 e15 e16 e18 e19 e21 e24 e25 e26 e27 e32 e33 e35 e38 e39 e41 e42 e43 e44 e45 e46 e47 e48 e50 e51 e52 e53 e54 e55
  conv => arg 2; arg 2; whnf
  have mixed := mixedYba
  have hn := hX.b1
  have HX : Hid (InpOk X) := hX
  have HC : Hid (Cst X bj bk bd ba wz) := C
  have HM : Hid (MR X z wz w MS.init) := M
  have HK : Hid (∀ a' w' (b : MS), Env X z bj bk bd ba bru bx bn a' → sl a' 54 = .int .i64 (X.n : Int) → Run (parB X) MS.init b → MI (parB X) b → (∀ i, i < X.n → b.ended i = true) → MR X z wz w' b → K a' w') := hK
  clear hX C M hK
  have hc0 : cnt X.n MS.init.ended = 0 := cnt_none (fun _ _ => rfl)
  go_wp2_with fail
  refine wp_loop_ghost_k (fun k a w => Env X z bj bk bd ba bru bx bn a ∧ ∃ (now st : Nat) (s : MS), sl a 53 = .int .i64 (now : Int) ∧ sl a 54 = .int .i64 ((cnt X.n s.ended : Nat) : Int) ∧ sl a 55 = .int .i64 (st : Int) ∧ s.now = now ∧ (∀ zz, Run (parB X) s zz → Run (parB X) MS.init zz) ∧ MR X z wz w s ∧ k + st = 2 * X.n + 2 ∧ ((st = 0 ∧ s = MS.init) ∨ (1 ≤ st ∧ Event (parB X) s s.now ∧ meas (parB X) s + st ≤ 2 * X.n + 1))) (2 * X.n + 2) ⟨⟨rfl, rfl, rfl, rfl, rfl, rfl, rfl, rfl, rfl, rfl, rfl, rfl, rfl, rfl, rfl, rfl, rfl, rfl, rfl, rfl, rfl, rfl, rfl, rfl, rfl, rfl, rfl, rfl⟩, 0, 0, MS.init, rfl, by rw [hc0]; rfl, rfl, rfl, fun _ h => h, HM.out, by omega, Or.inl ⟨rfl, rfl⟩⟩ ?_
  clear HM u hc0
  intro k a w hI J K2 hJ hK2
  obtain ⟨E, now, st, s, h53, h54, h55, hnow, hrun, M1, hkst, hprog⟩ := hI
  have HS : Hid (s.now = now ∧ (∀ zz, Run (parB X) s zz → Run (parB X) MS.init zz) ∧ k + st = 2 * X.n + 2 ∧ ((st = 0 ∧ s = MS.init) ∨ (1 ≤ st ∧ Event (parB X) s s.now ∧ meas (parB X) s + st ≤ 2 * X.n + 1))) := ⟨hnow, hrun, hkst, hprog⟩
  have HM1 : Hid (MR X z wz w s) := M1
  have HJ : Hid (∀ (k : Nat) (a' : Act) (w' : World), (Env X z bj bk bd ba bru bx bn a' ∧ ∃ (now st : Nat) (s : MS), sl a' 53 = .int .i64 (now : Int) ∧ sl a' 54 = .int .i64 ((cnt X.n s.ended : Nat) : Int) ∧ sl a' 55 = .int .i64 (st : Int) ∧ s.now = now ∧ (∀ zz, Run (parB X) s zz → Run (parB X) MS.init zz) ∧ MR X z wz w' s ∧ k + st = 2 * X.n + 2 ∧ ((st = 0 ∧ s = MS.init) ∨ (1 ≤ st ∧ Event (parB X) s s.now ∧ meas (parB X) s + st ≤ 2 * X.n + 1))) → J k a' w') := fun k a' w' h => hJ k a' w' h
  have hst2 : st ≤ 2 * X.n + 1 := by rcases hprog with ⟨h, _⟩ | ⟨_, _, h⟩ <;> omega
  have hst3 : st ≤ 5000 := by omega
  have hdone : (X.n = 0 ∧ s = MS.init) ∨ cnt X.n s.ended < X.n := by
    rcases hprog with ⟨h1, h2⟩ | ⟨h1, h2, _⟩
    · by_cases e : X.n = 0
      · exact Or.inl ⟨e, h2⟩
      · right; rw [h2]; have : cnt X.n MS.init.ended = 0 := cnt_none (fun _ _ => rfl); omega
    · right
      rcases Nat.lt_or_ge (cnt X.n s.ended) X.n with h | h
      · exact h
      · exfalso
        have hall := cnt_full (Nat.le_antisymm (cnt_le _ _) h)
        rcases h2 with ⟨i, h3, h4, h5, _⟩ | ⟨i, h3, h4, _⟩
        · rw [hall i h3] at h5; cases h5
        · have := M1.mi.sa i (M1.mi.es i (hall i h3)); rw [h4] at this; cases this
  clear hnow hrun M1 hJ hkst hprog
  obtain ⟨dn, hdn⟩ : ∃ x, x = cnt X.n s.ended := ⟨_, rfl⟩
  rw [← hdn] at h54 hdone
  have HDN : Hid (dn = cnt X.n s.ended) := hdn
  clear hdn
  obtain ⟨u, hu, ha⟩ := act817 E.hd E.hs
  have e14 := (hu 14).trans E.s14
  have e15 := (hu 15).trans E.s15
  have e16 := (hu 16).trans E.s16
  have e18 := (hu 18).trans E.s18
  have e19 := (hu 19).trans E.s19
  have e21 := (hu 21).trans E.s21
  have e24 := (hu 24).trans E.s24
  have e25 := (hu 25).trans E.s25
  have e26 := (hu 26).trans E.s26
  have e27 := (hu 27).trans E.s27
  have e32 := (hu 32).trans E.s32
  have e33 := (hu 33).trans E.s33
  have e35 := (hu 35).trans E.s35
  have e38 := (hu 38).trans E.s38
  have e39 := (hu 39).trans E.s39
  have e41 := (hu 41).trans E.s41
  have e42 := (hu 42).trans E.s42
  have e43 := (hu 43).trans E.s43
  have e44 := (hu 44).trans E.s44
  have e45 := (hu 45).trans E.s45
  have e46 := (hu 46).trans E.s46
  have e47 := (hu 47).trans E.s47
  have e48 := (hu 48).trans E.s48
  have e50 := (hu 50).trans E.s50
  have e51 := (hu 51).trans E.s51
  have e52 := (hu 52).trans E.s52
  have e53 := (hu 53).trans h53
  have e54 := (hu 54).trans h54
  have e55 := (hu 55).trans h55
  clear E hu h53 h54 h55
  subst ha
  simp only [e14, e15, e16, e18, e19, e21, e24, e25, e26, e27, e32, e33, e35, e38, e39, e41, e42, e43, e44, e45, e46, e47, e48, e50, e51, e52, e53, e54, e55, slc]
  clear e14 e15 e16 e18 e19 e21 e24 e25 e26 e27 e32 e33 e35 e38 e39 e41 e42 e43 e44 e45 e46 e47 e48 e50 e51 e52 e53 e54 e55
  have hle : (st : Int) ≤ 3 * (X.n : Int) + 3 := by omega
  have hle2 : decide ((st : Int) ≤ 3 * (X.n : Int) + 3) = true := decide_eq_true hle
  rcases hdone with ⟨hn0, hs0⟩ | hdlt
  · have hge : ¬ (dn : Int) < (X.n : Int) := by omega
    have HN0 : Hid (X.n = 0 ∧ s = MS.init ∧ dn = X.n) := ⟨hn0, hs0, by rw [HDN.out, hs0, hn0]; exact cnt_none (n := 0) (p := MS.init.ended) (fun _ _ => rfl)⟩
    clear hn0 hs0
    go_wp2
    obtain ⟨n0, n1, n2⟩ := HN0.out
    refine HK.out _ _ MS.init ⟨rfl, rfl, rfl, rfl, rfl, rfl, rfl, rfl, rfl, rfl, rfl, rfl, rfl, rfl, rfl, rfl, rfl, rfl, rfl, rfl, rfl, rfl, rfl, rfl, rfl, rfl, rfl, rfl⟩ (by rw [← n2]; rfl) (run_none n0) (MI.init _) (fun i hi => by omega) ?_
    have := HM1.out
    rw [n1] at this
    exact this
  · have hlt : (dn : Int) < (X.n : Int) := by omega
    go_upto_block 14 with fail
    rename_i K3 hK3
    refine law_end HX.out ⟨rfl, rfl, rfl, rfl, rfl, rfl, rfl, rfl, rfl, rfl, rfl, rfl, rfl, rfl, rfl, rfl, rfl, rfl, rfl, rfl, rfl, rfl, rfl, rfl, rfl, rfl, rfl, rfl⟩ HC.out HM1.out HS.out.1 rfl (by rw [← HDN.out]; rfl) rfl ?_
    intro a w E h53 h54 h55 M2
    replace h55 : sl a 55 = .int .i64 (st : Int) := h55
    apply hK3
    clear hK3 hle hle2 hlt
    have HM2 : Hid (MR X z wz w (endAll s)) := M2
    clear M2
    obtain ⟨d2, hd2⟩ : ∃ x, x = cnt X.n (endAll s).ended := ⟨_, rfl⟩
    rw [← hd2] at h54
    have HD2 : Hid (d2 = cnt X.n (endAll s).ended) := hd2
    clear hd2
    obtain ⟨u, hu, ha⟩ := act817 E.hd E.hs
    have e14 := (hu 14).trans E.s14
    have e15 := (hu 15).trans E.s15
    have e16 := (hu 16).trans E.s16
    have e18 := (hu 18).trans E.s18
    have e19 := (hu 19).trans E.s19
    have e21 := (hu 21).trans E.s21
    have e24 := (hu 24).trans E.s24
    have e25 := (hu 25).trans E.s25
    have e26 := (hu 26).trans E.s26
    have e27 := (hu 27).trans E.s27
    have e32 := (hu 32).trans E.s32
    have e33 := (hu 33).trans E.s33
    have e35 := (hu 35).trans E.s35
    have e38 := (hu 38).trans E.s38
    have e39 := (hu 39).trans E.s39
    have e41 := (hu 41).trans E.s41
    have e42 := (hu 42).trans E.s42
    have e43 := (hu 43).trans E.s43
    have e44 := (hu 44).trans E.s44
    have e45 := (hu 45).trans E.s45
    have e46 := (hu 46).trans E.s46
    have e47 := (hu 47).trans E.s47
    have e48 := (hu 48).trans E.s48
    have e50 := (hu 50).trans E.s50
    have e51 := (hu 51).trans E.s51
    have e52 := (hu 52).trans E.s52
    have e53 := (hu 53).trans h53
    have e54 := (hu 54).trans h54
    have e55 := (hu 55).trans h55
    clear E hu h53 h54 h55
    subst ha
    simp only [e14, e15, e16, e18, e19, e21, e24, e25, e26, e27, e32, e33, e35, e38, e39, e41, e42, e43, e44, e45, e46, e47, e48, e50, e51, e52, e53, e54, e55, slc]
    clear e14 e15 e16 e18 e19 e21 e24 e25 e26 e27 e32 e33 e35 e38 e39 e41 e42 e43 e44 e45 e46 e47 e48 e50 e51 e52 e53 e54 e55
    go_upto_block 16 with fail
    rename_i K3 hK3
    refine law_arr (now := now) HX.out ⟨rfl, rfl, rfl, rfl, rfl, rfl, rfl, rfl, rfl, rfl, rfl, rfl, rfl, rfl, rfl, rfl, rfl, rfl, rfl, rfl, rfl, rfl, rfl, rfl, rfl, rfl, rfl, rfl⟩ HC.out HM2.out HS.out.1 rfl rfl ?_
    intro a w E h53 h54 h55 M3
    replace h54 : sl a 54 = .int .i64 (d2 : Int) := h54
    replace h55 : sl a 55 = .int .i64 (st : Int) := h55
    apply hK3
    clear hK3 HM2
    have HM3 : Hid (MR X z wz w (arrAll (parB X) (endAll s))) := M3
    clear M3
    obtain ⟨u, hu, ha⟩ := act817 E.hd E.hs
    have e14 := (hu 14).trans E.s14
    have e15 := (hu 15).trans E.s15
    have e16 := (hu 16).trans E.s16
    have e18 := (hu 18).trans E.s18
    have e19 := (hu 19).trans E.s19
    have e21 := (hu 21).trans E.s21
    have e24 := (hu 24).trans E.s24
    have e25 := (hu 25).trans E.s25
    have e26 := (hu 26).trans E.s26
    have e27 := (hu 27).trans E.s27
    have e32 := (hu 32).trans E.s32
    have e33 := (hu 33).trans E.s33
    have e35 := (hu 35).trans E.s35
    have e38 := (hu 38).trans E.s38
    have e39 := (hu 39).trans E.s39
    have e41 := (hu 41).trans E.s41
    have e42 := (hu 42).trans E.s42
    have e43 := (hu 43).trans E.s43
    have e44 := (hu 44).trans E.s44
    have e45 := (hu 45).trans E.s45
    have e46 := (hu 46).trans E.s46
    have e47 := (hu 47).trans E.s47
    have e48 := (hu 48).trans E.s48
    have e50 := (hu 50).trans E.s50
    have e51 := (hu 51).trans E.s51
    have e52 := (hu 52).trans E.s52
    have e53 := (hu 53).trans h53
    have e54 := (hu 54).trans h54
    have e55 := (hu 55).trans h55
    clear E hu h53 h54 h55
    subst ha
    simp only [e14, e15, e16, e18, e19, e21, e24, e25, e26, e27, e32, e33, e35, e38, e39, e41, e42, e43, e44, e45, e46, e47, e48, e50, e51, e52, e53, e54, e55, slc]
    clear e14 e15 e16 e18 e19 e21 e24 e25 e26 e27 e32 e33 e35 e38 e39 e41 e42 e43 e44 e45 e46 e47 e48 e50 e51 e52 e53 e54 e55
    go_upto_block 18 with fail
    rename_i K3 hK3
    refine law_starts (now := now) HX.out ⟨rfl, rfl, rfl, rfl, rfl, rfl, rfl, rfl, rfl, rfl, rfl, rfl, rfl, rfl, rfl, rfl, rfl, rfl, rfl, rfl, rfl, rfl, rfl, rfl, rfl, rfl, rfl, rfl⟩ HC.out HM3.out HS.out.1 rfl rfl rfl ?_
    intro a w s2 E h53 h54 h55 hSt M4
    replace h54 : sl a 54 = .int .i64 (d2 : Int) := h54
    replace h55 : sl a 55 = .int .i64 (st : Int) := h55
    apply hK3
    clear hK3 HM3
    have HM4 : Hid (MR X z wz w s2) := M4
    have HST : Hid (Starts (parB X) (arrAll (parB X) (endAll s)) s2) := hSt
    have hnow2 : s2.now = now := (starts_keep hSt).1.trans HS.out.1
    have HNW2 : Hid (s2.now = now) := hnow2
    clear M4 hSt hnow2
    obtain ⟨u, hu, ha⟩ := act817 E.hd E.hs
    have e14 := (hu 14).trans E.s14
    have e15 := (hu 15).trans E.s15
    have e16 := (hu 16).trans E.s16
    have e18 := (hu 18).trans E.s18
    have e19 := (hu 19).trans E.s19
    have e21 := (hu 21).trans E.s21
    have e24 := (hu 24).trans E.s24
    have e25 := (hu 25).trans E.s25
    have e26 := (hu 26).trans E.s26
    have e27 := (hu 27).trans E.s27
    have e32 := (hu 32).trans E.s32
    have e33 := (hu 33).trans E.s33
    have e35 := (hu 35).trans E.s35
    have e38 := (hu 38).trans E.s38
    have e39 := (hu 39).trans E.s39
    have e41 := (hu 41).trans E.s41
    have e42 := (hu 42).trans E.s42
    have e43 := (hu 43).trans E.s43
    have e44 := (hu 44).trans E.s44
    have e45 := (hu 45).trans E.s45
    have e46 := (hu 46).trans E.s46
    have e47 := (hu 47).trans E.s47
    have e48 := (hu 48).trans E.s48
    have e50 := (hu 50).trans E.s50
    have e51 := (hu 51).trans E.s51
    have e52 := (hu 52).trans E.s52
    have e53 := (hu 53).trans h53
    have e54 := (hu 54).trans h54
    have e55 := (hu 55).trans h55
    clear E hu h53 h54 h55
    subst ha
    simp only [e14, e15, e16, e18, e19, e21, e24, e25, e26, e27, e32, e33, e35, e38, e39, e41, e42, e43, e44, e45, e46, e47, e48, e50, e51, e52, e53, e54, e55, slc]
    clear e14 e15 e16 e18 e19 e21 e24 e25 e26 e27 e32 e33 e35 e38 e39 e41 e42 e43 e44 e45 e46 e47 e48 e50 e51 e52 e53 e54 e55
    go_upto_block 30 with fail
    rename_i K3 hK3
    refine law_next (now := now) HX.out ⟨rfl, rfl, rfl, rfl, rfl, rfl, rfl, rfl, rfl, rfl, rfl, rfl, rfl, rfl, rfl, rfl, rfl, rfl, rfl, rfl, rfl, rfl, rfl, rfl, rfl, rfl, rfl, rfl⟩ HC.out HM4.out HNW2.out rfl rfl rfl rfl ?_
    intro a w f x E h53 h54 h55 h70 h71 hN M5
    replace h54 : sl a 54 = .int .i64 (d2 : Int) := h54
    replace h55 : sl a 55 = .int .i64 (st : Int) := h55
    apply hK3
    clear hK3 HM4
    have HM5 : Hid (MR X z wz w s2) := M5
    have hm := round_meas HST.out
    rcases hN with ⟨rfl, hnone⟩ | ⟨rfl, hex, hmin⟩
    · have hall : ∀ i, i < X.n → s2.ended i = true := final_all (pb_B HX.out) M5.mi (starts_end HST.out) hnone
      have HFIN : Hid (Run (parB X) MS.init s2 ∧ (∀ i, i < X.n → s2.ended i = true) ∧ d2 = X.n) := ⟨HS.out.2.1 _ (Run.last HST.out hnone), hall, by rw [HD2.out, show (endAll s).ended = s2.ended from (starts_keep HST.out).2.2.symm]; exact cnt_all hall⟩
      clear hnone hall M5 hm
      obtain ⟨u, hu, ha⟩ := act817 E.hd E.hs
      have e14 := (hu 14).trans E.s14
      have e15 := (hu 15).trans E.s15
      have e16 := (hu 16).trans E.s16
      have e18 := (hu 18).trans E.s18
      have e19 := (hu 19).trans E.s19
      have e21 := (hu 21).trans E.s21
      have e24 := (hu 24).trans E.s24
      have e25 := (hu 25).trans E.s25
      have e26 := (hu 26).trans E.s26
      have e27 := (hu 27).trans E.s27
      have e32 := (hu 32).trans E.s32
      have e33 := (hu 33).trans E.s33
      have e35 := (hu 35).trans E.s35
      have e38 := (hu 38).trans E.s38
      have e39 := (hu 39).trans E.s39
      have e41 := (hu 41).trans E.s41
      have e42 := (hu 42).trans E.s42
      have e43 := (hu 43).trans E.s43
      have e44 := (hu 44).trans E.s44
      have e45 := (hu 45).trans E.s45
      have e46 := (hu 46).trans E.s46
      have e47 := (hu 47).trans E.s47
      have e48 := (hu 48).trans E.s48
      have e50 := (hu 50).trans E.s50
      have e51 := (hu 51).trans E.s51
      have e52 := (hu 52).trans E.s52
      have e53 := (hu 53).trans h53
      have e54 := (hu 54).trans h54
      have e55 := (hu 55).trans h55
      have e70 := (hu 70).trans h70
      have e71 := (hu 71).trans h71
      clear E hu h53 h54 h55 h70 h71
      subst ha
      simp only [e14, e15, e16, e18, e19, e21, e24, e25, e26, e27, e32, e33, e35, e38, e39, e41, e42, e43, e44, e45, e46, e47, e48, e50, e51, e52, e53, e54, e55, e70, e71, slc]
      clear e14 e15 e16 e18 e19 e21 e24 e25 e26 e27 e32 e33 e35 e38 e39 e41 e42 e43 e44 e45 e46 e47 e48 e50 e51 e52 e53 e54 e55 e70 e71
      go_wp2
      exact HK.out _ _ s2 ⟨rfl, rfl, rfl, rfl, rfl, rfl, rfl, rfl, rfl, rfl, rfl, rfl, rfl, rfl, rfl, rfl, rfl, rfl, rfl, rfl, rfl, rfl, rfl, rfl, rfl, rfl, rfl, rfl⟩ (by rw [← HFIN.out.2.2]; rfl) HFIN.out.1 HM5.out.mi HFIN.out.2.1 HM5.out
    · have HNX : Hid (IsNext (parB X) s2 x) := ⟨hex, hmin⟩
      have hst4 : st ≤ 5000 := hst3
      have HPR : Hid (meas (parB X) s2 + (st + 1) ≤ 2 * X.n + 1) := by
        show _ ≤ _
        rcases HS.out.2.2.2 with ⟨h1, h2⟩ | ⟨h1, h2, h3⟩
        · have := meas_le (parB X) s2
          have h4 : (parB X).n = X.n := rfl
          omega
        · have := hm.2 h2; omega
      have HD3 : Hid (d2 = cnt X.n s2.ended) := by show _ = _; rw [HD2.out, show (endAll s).ended = s2.ended from (starts_keep HST.out).2.2.symm]
      clear hex hmin M5 hm
      obtain ⟨u, hu, ha⟩ := act817 E.hd E.hs
      have e14 := (hu 14).trans E.s14
      have e15 := (hu 15).trans E.s15
      have e16 := (hu 16).trans E.s16
      have e18 := (hu 18).trans E.s18
      have e19 := (hu 19).trans E.s19
      have e21 := (hu 21).trans E.s21
      have e24 := (hu 24).trans E.s24
      have e25 := (hu 25).trans E.s25
      have e26 := (hu 26).trans E.s26
      have e27 := (hu 27).trans E.s27
      have e32 := (hu 32).trans E.s32
      have e33 := (hu 33).trans E.s33
      have e35 := (hu 35).trans E.s35
      have e38 := (hu 38).trans E.s38
      have e39 := (hu 39).trans E.s39
      have e41 := (hu 41).trans E.s41
      have e42 := (hu 42).trans E.s42
      have e43 := (hu 43).trans E.s43
      have e44 := (hu 44).trans E.s44
      have e45 := (hu 45).trans E.s45
      have e46 := (hu 46).trans E.s46
      have e47 := (hu 47).trans E.s47
      have e48 := (hu 48).trans E.s48
      have e50 := (hu 50).trans E.s50
      have e51 := (hu 51).trans E.s51
      have e52 := (hu 52).trans E.s52
      have e53 := (hu 53).trans h53
      have e54 := (hu 54).trans h54
      have e55 := (hu 55).trans h55
      have e70 := (hu 70).trans h70
      have e71 := (hu 71).trans h71
      clear E hu h53 h54 h55 h70 h71
      subst ha
      simp only [e14, e15, e16, e18, e19, e21, e24, e25, e26, e27, e32, e33, e35, e38, e39, e41, e42, e43, e44, e45, e46, e47, e48, e50, e51, e52, e53, e54, e55, e70, e71, slc]
      clear e14 e15 e16 e18 e19 e21 e24 e25 e26 e27 e32 e33 e35 e38 e39 e41 e42 e43 e44 e45 e46 e47 e48 e50 e51 e52 e53 e54 e55 e70 e71
      go_wp2
      have hks := HS.out.2.2.1
      have hpr := HPR.out
      exact Handed.intro (k - 1) (by omega) (HJ.out (k - 1) _ _ ⟨⟨rfl, rfl, rfl, rfl, rfl, rfl, rfl, rfl, rfl, rfl, rfl, rfl, rfl, rfl, rfl, rfl, rfl, rfl, rfl, rfl, rfl, rfl, rfl, rfl, rfl, rfl, rfl, rfl⟩, x, st + 1, { s2 with now := x }, rfl, (by rw [show (({ s2 with now := x } : MS).ended) = s2.ended from rfl, ← HD3.out]; rfl), rfl, rfl, fun zz h => HS.out.2.1 zz (Run.more HST.out HNX.out h), HM5.out.later (HM5.out.mi.next (pb_B HX.out) HNX.out), by omega, Or.inr ⟨by omega, HNX.out.1, hpr⟩⟩)
end Go.Proofs.Ybulkdpsg

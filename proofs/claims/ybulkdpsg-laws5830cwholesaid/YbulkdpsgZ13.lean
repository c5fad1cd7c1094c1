/- S5830C: the law: tasks start. -/
import Derived.Test.YbulkdpsgZ7
import Derived.Test.YbulkdpsgZ10
import Derived.Test.YbulkdpsgZ11
import Derived.Test.YbulkdpsgZ12
namespace Go.Proofs.Ybulkdpsg
open Go Go.RowKit Go.Sort Go.Proofs Go.Lib
set_option linter.unusedVariables false
set_option linter.unusedSimpArgs false
theorem noPick_all {X : Inp} {s : MS} (h : ∀ i, i < X.n → s.started i = true) : NoPick (parB X) s := by
  have hno : ∀ i, i < X.n → s.started i = false → False := fun i hi hs => by rw [h i hi] at hs; cases hs
  unfold NoPick
  split
  · right
    rcases ruQ_rng (wait (parB X) s) (infl (parB X) s) (parB X).nJ with ⟨b, _⟩ | ⟨b, _, _, b3⟩
    · exact b
    · exfalso
      obtain ⟨i, h1, h2⟩ := cnt_pos.1 b3
      simp [waits] at h2
      exact hno i h1 h2.1.2
  · intro v hv hf t hw
    exact hno t hw.1 hw.2.2.2
set_option maxRecDepth 100000 in
set_option maxHeartbeats 16000000 in
theorem law_starts {X : Inp} (hX : InpOk X) {z bj bk bd ba bru bx bn now : Nat} {wz w : World} {s : MS} {a : Act} {K : Act → World → Prop} {Q : Exit → Act → World → Prop} (E : Env X z bj bk bd ba bru bx bn a) (C : Cst X bj bk bd ba wz) (M : MR X z wz w s) (hnow : s.now = now) (s53 : sl a 53 = .int .i64 (now : Int)) (s58 : sl a 58 = .int .i64 (X.n : Int)) {KA KB KC : Act → World → Prop} {R : Ending → World → Prop} (hQ : Q = Exit.inBlock 13 (Exit.then KA (Exit.then KB (Exit.inBlock 12 (Exit.then KC (bodyPost Yba.prog Yba.f4 R))))))
    (hK : ∀ a' w' s', Env X z bj bk bd ba bru bx bn a' → sl a' 53 = .int .i64 (now : Int) → sl a' 54 = sl a 54 → sl a' 55 = sl a 55 → Starts (parB X) s s' → MR X z wz w' s' → K a' w') :
    Code.wp Yba.prog (.block 18 (blk 18)) (Exit.then K Q) a w := by
  subst hQ
  obtain ⟨u, hu, ha⟩ := act817 E.hd E.hs
  have e14 := (hu 14).trans E.s14
  have e15 := (hu 15).trans E.s15
  have e16 := (hu 16).trans E.s16
  have e18 := (hu 18).trans E.s18
  have e19 := (hu 19).trans E.s19
  have e21 := (hu 21).trans E.s21
  have e24 := (hu 24).trans E.s24
  have e25 := (hu 25).trans E.s25
  have e26 := (hu 26).trans E.s26
  have e27 := (hu 27).trans E.s27
  have e32 := (hu 32).trans E.s32
  have e33 := (hu 33).trans E.s33
  have e35 := (hu 35).trans E.s35
  have e38 := (hu 38).trans E.s38
  have e39 := (hu 39).trans E.s39
  have e41 := (hu 41).trans E.s41
  have e42 := (hu 42).trans E.s42
  have e43 := (hu 43).trans E.s43
  have e44 := (hu 44).trans E.s44
  have e45 := (hu 45).trans E.s45
  have e46 := (hu 46).trans E.s46
  have e47 := (hu 47).trans E.s47
  have e48 := (hu 48).trans E.s48
  have e50 := (hu 50).trans E.s50
  have e51 := (hu 51).trans E.s51
  have e52 := (hu 52).trans E.s52
  have e53 := (hu 53).trans s53
  have e58 := (hu 58).trans s58
  have h54 : sl a 54 = u 54 := (hu 54).symm
  have h55 : sl a 55 = u 55 := (hu 55).symm
  rw [h54, h55] at hK
  clear E hu s53 s58 h54 h55
  subst ha
  simp only [e14, e15, e16, e18, e19, e21, e24, e25, e26, e27, e32, e33, e35, e38, e39, e41, e42, e43, e44, e45, e46, e47, e48, e50, e51, e52, e53, e58, slc]
  clear e14 e15 e16 e18 e19 e21 e24 e25 e26 e27 e32 e33 e35 e38 e39 e41 e42 e43 e44 e45 e46 e47 e48 e50 e51 e52 e53 e58
  conv => arg 2; arg 2; whnf
  have mixed := mixedYba
  have hn := hX.b1
  have HX : Hid (InpOk X) := hX
  have HC : Hid (Cst X bj bk bd ba wz) := C
  have HM : Hid (MR X z wz w s) := M
  have HNOW : Hid (s.now = now) := hnow
  have HK : Hid (∀ a' w' s', Env X z bj bk bd ba bru bx bn a' → sl a' 53 = .int .i64 (now : Int) → sl a' 54 = u 54 → sl a' 55 = u 55 → Starts (parB X) s s' → MR X z wz w' s' → K a' w') := hK
  clear hX C M hnow hK
  obtain ⟨v54, hv54⟩ : ∃ y, u 54 = y := ⟨_, rfl⟩
  obtain ⟨v55, hv55⟩ : ∃ y, u 55 = y := ⟨_, rfl⟩
  rw [hv54, hv55] at HK ⊢
  clear hv54 hv55
  go_wp2_with fail
  refine wp_loop_ghost_k (fun k a w => Env X z bj bk bd ba bru bx bn a ∧ sl a 53 = .int .i64 (now : Int) ∧ sl a 54 = v54 ∧ sl a 55 = v55 ∧ sl a 58 = .int .i64 (k : Int) ∧ k ≤ X.n ∧ ∃ s', (∀ zz, Starts (parB X) s' zz → Starts (parB X) s zz) ∧ X.n + cnt X.n s.started ≤ k + cnt X.n s'.started ∧ s'.now = now ∧ MR X z wz w s') X.n ⟨⟨rfl, rfl, rfl, rfl, rfl, rfl, rfl, rfl, rfl, rfl, rfl, rfl, rfl, rfl, rfl, rfl, rfl, rfl, rfl, rfl, rfl, rfl, rfl, rfl, rfl, rfl, rfl, rfl⟩, rfl, rfl, rfl, rfl, Nat.le_refl _, s, fun _ h => h, by omega, HNOW.out, HM.out⟩ ?_
  clear HM u
  intro k a w hI J K2 hJ hK2
  obtain ⟨E, h53, h54, h55, h58, hkn, s1, hSt, hcnt, hnow1, M1⟩ := hI
  have HS : Hid ((∀ zz, Starts (parB X) s1 zz → Starts (parB X) s zz) ∧ X.n + cnt X.n s.started ≤ k + cnt X.n s1.started ∧ s1.now = now) := ⟨hSt, hcnt, hnow1⟩
  have HM1 : Hid (MR X z wz w s1) := M1
  have HJ : Hid (∀ (k : Nat) (a' : Act) (w' : World), (Env X z bj bk bd ba bru bx bn a' ∧ sl a' 53 = .int .i64 (now : Int) ∧ sl a' 54 = v54 ∧ sl a' 55 = v55 ∧ sl a' 58 = .int .i64 (k : Int) ∧ k ≤ X.n ∧ ∃ s', (∀ zz, Starts (parB X) s' zz → Starts (parB X) s zz) ∧ X.n + cnt X.n s.started ≤ k + cnt X.n s'.started ∧ s'.now = now ∧ MR X z wz w' s') → J k a' w') := fun k a' w' h => hJ k a' w' h
  clear hSt hcnt hnow1 M1 hJ
  cases k with
  | zero =>
    obtain ⟨u, hu, ha⟩ := act817 E.hd E.hs
    have e14 := (hu 14).trans E.s14
    have e15 := (hu 15).trans E.s15
    have e16 := (hu 16).trans E.s16
    have e18 := (hu 18).trans E.s18
    have e19 := (hu 19).trans E.s19
    have e21 := (hu 21).trans E.s21
    have e24 := (hu 24).trans E.s24
    have e25 := (hu 25).trans E.s25
    have e26 := (hu 26).trans E.s26
    have e27 := (hu 27).trans E.s27
    have e32 := (hu 32).trans E.s32
    have e33 := (hu 33).trans E.s33
    have e35 := (hu 35).trans E.s35
    have e38 := (hu 38).trans E.s38
    have e39 := (hu 39).trans E.s39
    have e41 := (hu 41).trans E.s41
    have e42 := (hu 42).trans E.s42
    have e43 := (hu 43).trans E.s43
    have e44 := (hu 44).trans E.s44
    have e45 := (hu 45).trans E.s45
    have e46 := (hu 46).trans E.s46
    have e47 := (hu 47).trans E.s47
    have e48 := (hu 48).trans E.s48
    have e50 := (hu 50).trans E.s50
    have e51 := (hu 51).trans E.s51
    have e52 := (hu 52).trans E.s52
    have e53 := (hu 53).trans h53
    have e54 := (hu 54).trans h54
    have e55 := (hu 55).trans h55
    have e58 := (hu 58).trans h58
    clear E hu h53 h54 h55 h58
    subst ha
    simp only [e14, e15, e16, e18, e19, e21, e24, e25, e26, e27, e32, e33, e35, e38, e39, e41, e42, e43, e44, e45, e46, e47, e48, e50, e51, e52, e53, e54, e55, e58, slc]
    clear e14 e15 e16 e18 e19 e21 e24 e25 e26 e27 e32 e33 e35 e38 e39 e41 e42 e43 e44 e45 e46 e47 e48 e50 e51 e52 e53 e54 e55 e58
    have HNP : Hid (NoPick (parB X) s1) := noPick_all (cnt_full (Nat.le_antisymm (cnt_le _ _) (by have := HS.out.2.1; omega)))
    go_wp2
    exact HK.out _ _ s1 ⟨rfl, rfl, rfl, rfl, rfl, rfl, rfl, rfl, rfl, rfl, rfl, rfl, rfl, rfl, rfl, rfl, rfl, rfl, rfl, rfl, rfl, rfl, rfl, rfl, rfl, rfl, rfl, rfl⟩ rfl rfl rfl (HS.out.1 _ (Starts.stop HNP.out)) HM1.out
  | succ m =>
    obtain ⟨u, hu, ha⟩ := act817 E.hd E.hs
    have e14 := (hu 14).trans E.s14
    have e15 := (hu 15).trans E.s15
    have e16 := (hu 16).trans E.s16
    have e18 := (hu 18).trans E.s18
    have e19 := (hu 19).trans E.s19
    have e21 := (hu 21).trans E.s21
    have e24 := (hu 24).trans E.s24
    have e25 := (hu 25).trans E.s25
    have e26 := (hu 26).trans E.s26
    have e27 := (hu 27).trans E.s27
    have e32 := (hu 32).trans E.s32
    have e33 := (hu 33).trans E.s33
    have e35 := (hu 35).trans E.s35
    have e38 := (hu 38).trans E.s38
    have e39 := (hu 39).trans E.s39
    have e41 := (hu 41).trans E.s41
    have e42 := (hu 42).trans E.s42
    have e43 := (hu 43).trans E.s43
    have e44 := (hu 44).trans E.s44
    have e45 := (hu 45).trans E.s45
    have e46 := (hu 46).trans E.s46
    have e47 := (hu 47).trans E.s47
    have e48 := (hu 48).trans E.s48
    have e50 := (hu 50).trans E.s50
    have e51 := (hu 51).trans E.s51
    have e52 := (hu 52).trans E.s52
    have e53 := (hu 53).trans h53
    have e54 := (hu 54).trans h54
    have e55 := (hu 55).trans h55
    have e58 := (hu 58).trans h58
    clear E hu h53 h54 h55 h58
    subst ha
    simp only [e14, e15, e16, e18, e19, e21, e24, e25, e26, e27, e32, e33, e35, e38, e39, e41, e42, e43, e44, e45, e46, e47, e48, e50, e51, e52, e53, e54, e55, e58, slc]
    clear e14 e15 e16 e18 e19 e21 e24 e25 e26 e27 e32 e33 e35 e38 e39 e41 e42 e43 e44 e45 e46 e47 e48 e50 e51 e52 e53 e54 e55 e58
    have hd1 : decide (((m + 1 : Nat) : Int) > 0) = true := decide_eq_true (by omega)
    have hd2 : (0 : Int) < (m : Int) + 1 := by omega
    go_upto_if 401 with fail
    rename_i K1 hK1
    have HMEET : Hid (∀ (a' : Act) (w' : World) (t v : Nat), Env X z bj bk bd ba bru bx bn a' → sl a' 53 = .int .i64 (now : Int) → sl a' 54 = v54 → sl a' 55 = v55 → sl a' 58 = .int .i64 ((m + 1 : Nat) : Int) → sl a' 59 = .int .i64 (t : Int) → sl a' 60 = .int .i64 (v : Int) → Pick (parB X) s1 t v → MR X z wz w' s1 → K1 a' w') := by
      intro a w t v E h53 h54 h55 h58 h59 h60 hp M
      apply hK1
      obtain ⟨u, hu, ha⟩ := act817 E.hd E.hs
      have e14 := (hu 14).trans E.s14
      have e15 := (hu 15).trans E.s15
      have e16 := (hu 16).trans E.s16
      have e18 := (hu 18).trans E.s18
      have e19 := (hu 19).trans E.s19
      have e21 := (hu 21).trans E.s21
      have e24 := (hu 24).trans E.s24
      have e25 := (hu 25).trans E.s25
      have e26 := (hu 26).trans E.s26
      have e27 := (hu 27).trans E.s27
      have e32 := (hu 32).trans E.s32
      have e33 := (hu 33).trans E.s33
      have e35 := (hu 35).trans E.s35
      have e38 := (hu 38).trans E.s38
      have e39 := (hu 39).trans E.s39
      have e41 := (hu 41).trans E.s41
      have e42 := (hu 42).trans E.s42
      have e43 := (hu 43).trans E.s43
      have e44 := (hu 44).trans E.s44
      have e45 := (hu 45).trans E.s45
      have e46 := (hu 46).trans E.s46
      have e47 := (hu 47).trans E.s47
      have e48 := (hu 48).trans E.s48
      have e50 := (hu 50).trans E.s50
      have e51 := (hu 51).trans E.s51
      have e52 := (hu 52).trans E.s52
      have e53 := (hu 53).trans h53
      have e54 := (hu 54).trans h54
      have e55 := (hu 55).trans h55
      have e58 := (hu 58).trans h58
      have e59 := (hu 59).trans h59
      have e60 := (hu 60).trans h60
      clear E hu h53 h54 h55 h58 h59 h60
      subst ha
      simp only [e14, e15, e16, e18, e19, e21, e24, e25, e26, e27, e32, e33, e35, e38, e39, e41, e42, e43, e44, e45, e46, e47, e48, e50, e51, e52, e53, e54, e55, e58, e59, e60, slc]
      clear e14 e15 e16 e18 e19 e21 e24 e25 e26 e27 e32 e33 e35 e38 e39 e41 e42 e43 e44 e45 e46 e47 e48 e50 e51 e52 e53 e54 e55 e58 e59 e60
      obtain ⟨htn, hta, hts, hvW, hvf⟩ := pick_facts hp
      have HP : Hid (Pick (parB X) s1 t v) := hp
      have hkx := HX.out.k t htn
      obtain ⟨ad, cap, cm, hI, ho⟩ := mr_mem M hvW
      have HM : Hid (MR X z wz w s1) := M
      have ck : w.cell? ⟨bk, t, none⟩ = some (.int .i64 (X.key t : Int)) := M.fr.cell (HC.out.k.cell htn) (by simp)
      have zt : (t : Int) < (X.n : Int) := by have : t < X.n := htn; omega
      have zv : (v : Int) < (X.nW : Int) := by have : v < X.nW := hvW; omega
      obtain ⟨ln, hln⟩ : ∃ x, x = (iN (s1.mem v)).length := ⟨_, rfl⟩
      have hlen := mr_len HX.out M v
      obtain ⟨cb, hcb⟩ : ∃ b, b = isCold (parB X) s1 t v := ⟨_, rfl⟩
      have HCB : Hid (cb = isCold (parB X) s1 t v) := hcb
      have hbool : decide ((X.key t : Int) ∈ iN (s1.mem v)) = !cb := by
        rw [hcb]
        show _ = !(decide (X.key t ∉ s1.mem v))
        by_cases e : X.key t ∈ s1.mem v
        · rw [decide_eq_true (iN_mem.2 e), decide_eq_false (fun h => h e)]; rfl
        · rw [decide_eq_false (fun h => e (iN_mem.1 h)), decide_eq_true e]; rfl
      have HCL : Hid (∀ n, Calls Yba.prog 15 #[.slice ad ln cap, .int .i64 (X.key t : Int)] (w.drewN n) fun e w' => e = .returned (.bool (!cb)) ∧ w' = w.drewN n) := fun n => by
        rw [← hbool, hln]
        exact (has15 ad cap (iN (s1.mem v)) (X.key t : Int) (w.drewN n) hI (by omega)).mono fun e w' ⟨h1, h2⟩ => ⟨h1, h2.symm⟩
      have HIO : Hid (Ints w ad (iN (s1.mem v)) ∧ w.ownsRow (z + 12) 3 1 (.slice ad (iN (s1.mem v)).length cap) (iN (s1.mem v)).length (iL (iN (s1.mem v))) ∧ ln = (iN (s1.mem v)).length) := ⟨hI, ho, hln⟩
      rw [← hln] at cm
      clear hp hI ho hln hcb hbool hK1 M hta hts hvf hlen
      go_wp2_with fail
      go_quiet (first | (go_at_call 15; refine Calls.quiet_of_same (HCL.out _)))
      obtain ⟨W0, hW0⟩ : ∃ Y, w.drewN nq = Y := ⟨_, rfl⟩
      have HM0 : Hid (MR X z wz W0 s1) := by rw [← hW0]; exact HM.out.drew nq
      have HIO0 : Hid (Ints W0 ad (iN (s1.mem v)) ∧ W0.ownsRow (z + 12) 3 1 (.slice ad (iN (s1.mem v)).length cap) (iN (s1.mem v)).length (iL (iN (s1.mem v)))) := by rw [← hW0]; exact ⟨HIO.out.1, HIO.out.2.1⟩
      have cm0 : W0.cell? ⟨z + 9, v, none⟩ = some (.slice ad ln cap) := by rw [← hW0]; exact cm
      have ck0 : W0.cell? ⟨bk, t, none⟩ = some (.int .i64 (X.key t : Int)) := by rw [← hW0]; exact ck
      rw [hW0]
      clear cm ck hW0 HCL
      have htouch0 := mr_touch (k := X.key t) HX.out (HM0.out.drew 1) hvW (ad := ad) (cap := cap) HIO0.out.1 HIO0.out.2
      rw [← HIO.out.2.2] at htouch0
      have htouch : Calls Yba.prog 16 #[.slice ad ln cap, .int .i64 (X.key t : Int), .int .i64 (X.nC : Int)] W0.drew fun e w' => ∃ vn, e = .returned vn ∧ w'.ownsRow (z + 12) 3 1 vn (iN (memQ X.nC (s1.mem v) (X.key t))).length (iL (iN (memQ X.nC (s1.mem v) (X.key t)))) ∧ Fr [] W0.drew w' := htouch0
      clear htouch0
      go_upto_region 129 with fail
      go_cut [] from 592 to 604 (fun wx => ∃ (vn : Value) (w1 : World), wx = w1.setCell ⟨z + 9, v, none⟩ vn ∧ Hid (Fr [] W0 w1 ∧ w1.ownsRow (z + 12) 3 1 vn (iN (memQ X.nC (s1.mem v) (X.key t))).length (iL (iN (memQ X.nC (s1.mem v) (X.key t))))))
      case first =>
        go_region_with (first | (go_at_call 16; refine htouch.mono ?_; clear htouch; rintro e w1 ⟨vn, rfl, h1, h2⟩; obtain ⟨ad2, cap2, hvn, _⟩ := ints_own h1; subst hvn; obtain ⟨L2, hL2⟩ : ∃ x, (iN (memQ X.nC (s1.mem v) (X.key t))).length = x := ⟨_, rfl⟩; rw [hL2] at h1 ⊢; have HT : Hid (Fr [] W0 w1 ∧ w1.ownsRow (z + 12) 3 1 (.slice ad2 L2 cap2) (iN (memQ X.nC (s1.mem v) (X.key t))).length (iL (iN (memQ X.nC (s1.mem v) (X.key t))))) := ⟨⟨h2.os, h2.tape, h2.output, h2.size, h2.block⟩, (by rw [hL2]; exact h1)⟩; clear h1 h2 hL2; obtain ⟨vmm, hmm1, _⟩ := HM0.out.r9; have hmm2 := HT.out.1.row hmm1 (by simp); have cmw := hmm2.cell hvW; have fmw := hmm2.frozen v; clear hmm1 hmm2))
        all_goals
          go_wp2_with fail
          go_meet
          exact ⟨.slice ad2 L2 cap2, w1, rfl, HT⟩
      case rest =>
      obtain ⟨vn, w1, hwc, HT⟩ := hcut
      have hstep := HM0.out.startStep HX.out HP.out HT.out.1 HT.out.2
      rw [← hwc] at hstep
      have M0 := HM0.out
      have f1 := HT.out.1
      have hz := M0.zs
      obtain ⟨fv, hfv⟩ : ∃ x, x = fr (parB X) s1 v := ⟨_, rfl⟩
      obtain ⟨iv, hiv⟩ : ∃ x, x = infl (parB X) s1 (X.job t) := ⟨_, rfl⟩
      obtain ⟨wv, hwv⟩ : ∃ x, x = wait (parB X) s1 (X.job t) := ⟨_, rfl⟩
      rw [← hfv, ← hiv, ← hwv, HS.out.2.2, ← HCB.out] at hstep
      have hfv4 : fv ≤ 3 := by rw [hfv]; unfold fr; have := HX.out.b3; show X.nS - _ ≤ 3; omega
      have hiv2 : iv ≤ 2048 := by rw [hiv]; have : infl (parB X) s1 (X.job t) ≤ X.n := cnt_le _ _; omega
      have hwv2 : wv ≤ 2048 := by rw [hwv]; have : wait (parB X) s1 (X.job t) ≤ X.n := cnt_le _ _; omega
      obtain ⟨ev, hev⟩ : ∃ x, x = enOf (parB X) s1 t v := ⟨_, rfl⟩
      have HEV : Hid ((ev : Int) = (now : Int) + (X.dur t : Int) + (if cb then (X.pd : Int) else 0)) := by
        show _ = _
        rw [hev]
        unfold enOf
        rw [← HCB.out, HS.out.2.2]
        show ((now + X.dur t + (if cb = true then X.pd else 0) : Nat) : Int) = _
        split <;> simp
      rw [← hev] at hstep
      have htime : now ≤ 200000 := by have := (M0.mi.time (pb_B HX.out)).1; rw [HS.out.2.2] at this; exact this
      have hpd := HX.out.b6
      have q1 : wc.rowIs (z + 8) 3 X.nW (fun v => .int .i64 (fr (parB X) s1 v : Int)) := by rw [hwc]; exact (f1.row M0.r8 (by simp)).so (by omega) _
      have q2 : wc.rowIs (z + 10) 3 X.nJ (fun j => .int .i64 (infl (parB X) s1 j : Int)) := by rw [hwc]; exact (f1.row M0.r10 (by simp)).so (by omega) _
      have q3 : wc.rowIs (z + 11) 3 X.nJ (fun j => .int .i64 (wait (parB X) s1 j : Int)) := by rw [hwc]; exact (f1.row M0.r11 (by simp)).so (by omega) _
      have q4 : wc.rowIs (z + 2) 4 X.n (fun i => .bool (s1.started i)) := by rw [hwc]; exact (f1.row M0.r2 (by simp)).so (by omega) _
      have q5 : wc.rowIs (z + 5) 44 X.n (fun i => .int .i64 (s1.st i : Int)) := by rw [hwc]; exact (f1.row M0.r5 (by simp)).so (by omega) _
      have q6 : wc.rowIs (z + 6) 44 X.n (fun i => .int .i64 (s1.en i : Int)) := by rw [hwc]; exact (f1.row M0.r6 (by simp)).so (by omega) _
      have q7 : wc.rowIs (z + 7) 3 X.n (fun i => .int .i64 (s1.wk i : Int)) := by rw [hwc]; exact (f1.row M0.r7 (by simp)).so (by omega) _
      have q8 : wc.rowIs (z + 4) 4 X.n (fun i => .bool (s1.cold i)) := by rw [hwc]; exact (f1.row M0.r4 (by simp)).so (by omega) _
      have qf : Fr [] wz wc := by rw [hwc]; exact fr_upd (M0.fr.trans f1) (by omega) _
      have qj := qf.row HC.out.j (by simp)
      have qd := qf.row HC.out.d (by simp)
      have hjz : bj ≠ z + 8 ∧ bj ≠ z + 10 ∧ bj ≠ z + 11 ∧ bj ≠ z + 2 ∧ bj ≠ z + 5 ∧ bd ≠ z + 8 ∧ bd ≠ z + 10 ∧ bd ≠ z + 11 ∧ bd ≠ z + 2 ∧ bd ≠ z + 5 := by
        have x1 := HC.out.j.lt
        have x2 := HC.out.d.lt
        omega
      have A1c := q1.cell hvW
      have A1f := q1.frozen v
      rw [← hfv] at A1c
      obtain ⟨A2, hA2⟩ : ∃ Y, wc.setCell ⟨z + 8, v, none⟩ (.int .i64 ((fv : Int) - 1)) = Y := ⟨_, rfl⟩
      have A2j : A2.cell? ⟨bj, t, none⟩ = some (.int .i64 (X.job t : Int)) := by rw [← hA2]; exact (qj.so hjz.1 _).cell htn
      have A2r := q2.so (i := v) (show z + 10 ≠ z + 8 by omega) (.int .i64 ((fv : Int) - 1))
      rw [hA2] at A2r
      have A2c := A2r.cell hkx.1
      have A2f := A2r.frozen (X.job t)
      rw [← hiv] at A2c
      obtain ⟨A3, hA3⟩ : ∃ Y, A2.setCell ⟨z + 10, X.job t, none⟩ (.int .i64 ((iv : Int) + 1)) = Y := ⟨_, rfl⟩
      have A3j : A3.cell? ⟨bj, t, none⟩ = some (.int .i64 (X.job t : Int)) := by rw [← hA3, ← hA2]; exact ((qj.so hjz.1 _).so hjz.2.1 _).cell htn
      have A3r : A3.rowIs (z + 11) 3 X.nJ (fun j => .int .i64 (wait (parB X) s1 j : Int)) := by rw [← hA3, ← hA2]; exact (q3.so (by omega) _).so (by omega) _
      have A3c := A3r.cell hkx.1
      have A3f := A3r.frozen (X.job t)
      rw [← hwv] at A3c
      obtain ⟨A4, hA4⟩ : ∃ Y, A3.setCell ⟨z + 11, X.job t, none⟩ (.int .i64 ((wv : Int) - 1)) = Y := ⟨_, rfl⟩
      have A4r : A4.rowIs (z + 2) 4 X.n (fun i => .bool (s1.started i)) := by rw [← hA4, ← hA3, ← hA2]; exact ((q4.so (by omega) _).so (by omega) _).so (by omega) _
      have A4c := A4r.cell htn
      have A4f := A4r.frozen t
      obtain ⟨A5, hA5⟩ : ∃ Y, A4.setCell ⟨z + 2, t, none⟩ (.bool true) = Y := ⟨_, rfl⟩
      have A5r : A5.rowIs (z + 5) 44 X.n (fun i => .int .i64 (s1.st i : Int)) := by rw [← hA5, ← hA4, ← hA3, ← hA2]; exact (((q5.so (by omega) _).so (by omega) _).so (by omega) _).so (by omega) _
      have A5c := A5r.cell htn
      have A5f := A5r.frozen t
      obtain ⟨A6, hA6⟩ : ∃ Y, A5.setCell ⟨z + 5, t, none⟩ (.int .i64 (now : Int)) = Y := ⟨_, rfl⟩
      have A6d : A6.cell? ⟨bd, t, none⟩ = some (.int .i64 (X.dur t : Int)) := by rw [← hA6, ← hA5, ← hA4, ← hA3, ← hA2]; exact (((((qd.so (by omega) _).so (by omega) _).so (by omega) _).so (by omega) _).so (by omega) _).cell htn
      have A6r : A6.rowIs (z + 6) 44 X.n (fun i => .int .i64 (s1.en i : Int)) := by rw [← hA6, ← hA5, ← hA4, ← hA3, ← hA2]; exact ((((q6.so (by omega) _).so (by omega) _).so (by omega) _).so (by omega) _).so (by omega) _
      have A6c := A6r.cell htn
      have A6f := A6r.frozen t
      obtain ⟨A7, hA7⟩ : ∃ Y, A6.setCell ⟨z + 6, t, none⟩ (.int .i64 (ev : Int)) = Y := ⟨_, rfl⟩
      have A7r : A7.rowIs (z + 7) 3 X.n (fun i => .int .i64 (s1.wk i : Int)) := by rw [← hA7, ← hA6, ← hA5, ← hA4, ← hA3, ← hA2]; exact (((((q7.so (by omega) _).so (by omega) _).so (by omega) _).so (by omega) _).so (by omega) _).so (by omega) _
      have A7c := A7r.cell htn
      have A7f := A7r.frozen t
      obtain ⟨A8, hA8⟩ : ∃ Y, A7.setCell ⟨z + 7, t, none⟩ (.int .i64 (v : Int)) = Y := ⟨_, rfl⟩
      have A8r : A8.rowIs (z + 4) 4 X.n (fun i => .bool (s1.cold i)) := by rw [← hA8, ← hA7, ← hA6, ← hA5, ← hA4, ← hA3, ← hA2]; exact ((((((q8.so (by omega) _).so (by omega) _).so (by omega) _).so (by omega) _).so (by omega) _).so (by omega) _).so (by omega) _
      have A8c := A8r.cell htn
      have A8f := A8r.frozen t
      obtain ⟨A9, hA9⟩ : ∃ Y, A8.setCell ⟨z + 4, t, none⟩ (.bool cb) = Y := ⟨_, rfl⟩
      rw [hA2, hA3, hA4, hA5, hA6, hA7, hA8, hA9] at hstep
      have HSTEP : Hid (MR X z wz A9 (start (parB X) s1 t v)) := hstep
      have zj : (X.job t : Int) < (X.nJ : Int) := by have := hkx.1; omega
      have hed := HEV.out
      have hcs := cnt_start (A := parB X) (v := v) htn (pick_facts HP.out).2.2.1
      have HCS : Hid (cnt X.n (start (parB X) s1 t v).started = cnt X.n s1.started + 1) := hcs
      clear hstep M0 f1 hwc q1 q2 q3 q4 q5 q6 q7 q8 qf qj qd A2r A3r A4r A5r A6r A7r A8r hfv hiv hwv hev hcs hjz hz
      cases cb with
      | true =>
        have he : (now : Int) + (X.dur t : Int) + (X.pd : Int) = (ev : Int) := by simpa using hed.symm
        clear hed
        go_wp2
        exact Handed.intro m (by omega) (HJ.out m _ _ ⟨⟨rfl, rfl, rfl, rfl, rfl, rfl, rfl, rfl, rfl, rfl, rfl, rfl, rfl, rfl, rfl, rfl, rfl, rfl, rfl, rfl, rfl, rfl, rfl, rfl, rfl, rfl, rfl, rfl⟩, rfl, rfl, rfl, by first | rfl | (simp [sl]; done), by omega, start (parB X) s1 t v, fun zz h => HS.out.1 zz (Starts.go HP.out h), by have := HS.out.2.1; have := HCS.out; omega, HS.out.2.2, HSTEP.out⟩)
      | false =>
        have he : (now : Int) + (X.dur t : Int) = (ev : Int) := by simpa using hed.symm
        clear hed
        go_wp2
        exact Handed.intro m (by omega) (HJ.out m _ _ ⟨⟨rfl, rfl, rfl, rfl, rfl, rfl, rfl, rfl, rfl, rfl, rfl, rfl, rfl, rfl, rfl, rfl, rfl, rfl, rfl, rfl, rfl, rfl, rfl, rfl, rfl, rfl, rfl, rfl⟩, rfl, rfl, rfl, by first | rfl | (simp [sl]; done), by omega, start (parB X) s1 t v, fun zz h => HS.out.1 zz (Starts.go HP.out h), by have := HS.out.2.1; have := HCS.out; omega, HS.out.2.2, HSTEP.out⟩)
    clear hK1 hd1 hd2
    cases hst : X.sticky with
    | true =>
      have HSTK : Hid (X.sticky = true) := hst
      clear hst
      have hroom := mr_room HX.out HM1.out (-1)
      rw [room_a] at hroom
      rcases rmQ_rng (fr (parB X) s1) (fun _ => true) X.nW with ⟨b1, _⟩ | ⟨c, b1, _⟩
      · have hb : rmA (parB X) s1 = -1 := b1
        rw [hb] at hroom
        have HNP : Hid (NoPick (parB X) s1) := by
          show NoPick (parB X) s1
          unfold NoPick
          rw [if_pos (show (parB X).sticky = true from HSTK.out)]; exact Or.inl hb
        clear b1 hb
        go_wp2_with (first | (go_at_call 13; refine hroom.mono ?_; clear hroom; rintro e w2 ⟨rfl, q2, rfl⟩))
        exact HK.out _ _ s1 ⟨rfl, rfl, rfl, rfl, rfl, rfl, rfl, rfl, rfl, rfl, rfl, rfl, rfl, rfl, rfl, (by show _ = Value.bool X.sticky; rw [HSTK.out]; rfl), rfl, rfl, rfl, rfl, rfl, rfl, rfl, rfl, rfl, rfl, rfl, rfl⟩ rfl rfl rfl (HS.out.1 _ (Starts.stop HNP.out)) (HM1.out.drew _)
      · have hb : rmA (parB X) s1 = (c : Int) := b1
        rw [hb] at hroom
        have HB : Hid (rmA (parB X) s1 = (c : Int)) := hb
        have hd3 : decide ((c : Int) < 0) = false := decide_eq_false (by omega)
        clear b1 hb
        go_upto_block 20 with (first | (go_at_call 13; refine hroom.mono ?_; clear hroom; rintro e w2 ⟨rfl, q2, rfl⟩))
        rename_i K3 hK3
        refine law_job HX.out ⟨rfl, rfl, rfl, rfl, rfl, rfl, rfl, rfl, rfl, rfl, rfl, rfl, rfl, rfl, rfl, (by show _ = Value.bool X.sticky; rw [HSTK.out]; rfl), rfl, rfl, rfl, rfl, rfl, rfl, rfl, rfl, rfl, rfl, rfl, rfl⟩ HC.out (HM1.out.drew q2) HS.out.2.2 rfl rfl rfl ?_
        intro a w E h53 h54 h55 h58 h59 h60 h61 M2
        apply hK3
        clear hK3 hd3
        rcases ruQ_rng (wait (parB X) s1) (infl (parB X) s1) X.nJ with ⟨j1, _⟩ | ⟨j, j1, j2, j3⟩
        · rw [j1] at h61
          obtain ⟨u, hu, ha⟩ := act817 E.hd E.hs
          have e14 := (hu 14).trans E.s14
          have e15 := (hu 15).trans E.s15
          have e16 := (hu 16).trans E.s16
          have e18 := (hu 18).trans E.s18
          have e19 := (hu 19).trans E.s19
          have e21 := (hu 21).trans E.s21
          have e24 := (hu 24).trans E.s24
          have e25 := (hu 25).trans E.s25
          have e26 := (hu 26).trans E.s26
          have e27 := (hu 27).trans E.s27
          have e32 := (hu 32).trans E.s32
          have e33 := (hu 33).trans E.s33
          have e35 := (hu 35).trans E.s35
          have e38 := (hu 38).trans E.s38
          have e39 := (hu 39).trans E.s39
          have e41 := (hu 41).trans E.s41
          have e42 := (hu 42).trans E.s42
          have e43 := (hu 43).trans E.s43
          have e44 := (hu 44).trans E.s44
          have e45 := (hu 45).trans E.s45
          have e46 := (hu 46).trans E.s46
          have e47 := (hu 47).trans E.s47
          have e48 := (hu 48).trans E.s48
          have e50 := (hu 50).trans E.s50
          have e51 := (hu 51).trans E.s51
          have e52 := (hu 52).trans E.s52
          have e53 := (hu 53).trans h53
          have e54 := (hu 54).trans h54
          have e55 := (hu 55).trans h55
          have e58 := (hu 58).trans h58
          have e59 := (hu 59).trans h59
          have e60 := (hu 60).trans h60
          have e61 := (hu 61).trans h61
          clear E hu h53 h54 h55 h58 h59 h60 h61
          subst ha
          simp only [e14, e15, e16, e18, e19, e21, e24, e25, e26, e27, e32, e33, e35, e38, e39, e41, e42, e43, e44, e45, e46, e47, e48, e50, e51, e52, e53, e54, e55, e58, e59, e60, e61, slc]
          clear e14 e15 e16 e18 e19 e21 e24 e25 e26 e27 e32 e33 e35 e38 e39 e41 e42 e43 e44 e45 e46 e47 e48 e50 e51 e52 e53 e54 e55 e58 e59 e60 e61
          have HNP : Hid (NoPick (parB X) s1) := by
            show NoPick (parB X) s1
            unfold NoPick
            rw [if_pos (show (parB X).sticky = true from HSTK.out)]; exact Or.inr j1
          have HM2 : Hid (MR X z wz w s1) := M2
          clear j1 M2
          go_wp2
          exact HK.out _ _ s1 ⟨rfl, rfl, rfl, rfl, rfl, rfl, rfl, rfl, rfl, rfl, rfl, rfl, rfl, rfl, rfl, rfl, rfl, rfl, rfl, rfl, rfl, rfl, rfl, rfl, rfl, rfl, rfl, rfl⟩ rfl rfl rfl (HS.out.1 _ (Starts.stop HNP.out)) HM2.out
        · rw [j1] at h61
          obtain ⟨u, hu, ha⟩ := act817 E.hd E.hs
          have e14 := (hu 14).trans E.s14
          have e15 := (hu 15).trans E.s15
          have e16 := (hu 16).trans E.s16
          have e18 := (hu 18).trans E.s18
          have e19 := (hu 19).trans E.s19
          have e21 := (hu 21).trans E.s21
          have e24 := (hu 24).trans E.s24
          have e25 := (hu 25).trans E.s25
          have e26 := (hu 26).trans E.s26
          have e27 := (hu 27).trans E.s27
          have e32 := (hu 32).trans E.s32
          have e33 := (hu 33).trans E.s33
          have e35 := (hu 35).trans E.s35
          have e38 := (hu 38).trans E.s38
          have e39 := (hu 39).trans E.s39
          have e41 := (hu 41).trans E.s41
          have e42 := (hu 42).trans E.s42
          have e43 := (hu 43).trans E.s43
          have e44 := (hu 44).trans E.s44
          have e45 := (hu 45).trans E.s45
          have e46 := (hu 46).trans E.s46
          have e47 := (hu 47).trans E.s47
          have e48 := (hu 48).trans E.s48
          have e50 := (hu 50).trans E.s50
          have e51 := (hu 51).trans E.s51
          have e52 := (hu 52).trans E.s52
          have e53 := (hu 53).trans h53
          have e54 := (hu 54).trans h54
          have e55 := (hu 55).trans h55
          have e58 := (hu 58).trans h58
          have e59 := (hu 59).trans h59
          have e60 := (hu 60).trans h60
          have e61 := (hu 61).trans h61
          clear E hu h53 h54 h55 h58 h59 h60 h61
          subst ha
          simp only [e14, e15, e16, e18, e19, e21, e24, e25, e26, e27, e32, e33, e35, e38, e39, e41, e42, e43, e44, e45, e46, e47, e48, e50, e51, e52, e53, e54, e55, e58, e59, e60, e61, slc]
          clear e14 e15 e16 e18 e19 e21 e24 e25 e26 e27 e32 e33 e35 e38 e39 e41 e42 e43 e44 e45 e46 e47 e48 e50 e51 e52 e53 e54 e55 e58 e59 e60 e61
          have HJ1 : Hid (ruQ (wait (parB X) s1) (infl (parB X) s1) X.nJ = (j : Int) ∧ 0 < wait (parB X) s1 j) := ⟨j1, j3⟩
          have HM2 : Hid (MR X z wz w s1) := M2
          have hd4 : decide ((j : Int) < 0) = false := decide_eq_false (by omega)
          clear j1 j3 M2
          go_upto_block 22 with fail
          rename_i K4 hK4
          refine law_warm (j := j) HX.out ⟨rfl, rfl, rfl, rfl, rfl, rfl, rfl, rfl, rfl, rfl, rfl, rfl, rfl, rfl, rfl, rfl, rfl, rfl, rfl, rfl, rfl, rfl, rfl, rfl, rfl, rfl, rfl, rfl⟩ HC.out HM2.out HS.out.2.2 rfl rfl rfl rfl rfl ?_
          intro a w t v E h53 h54 h55 h58 h59 h60 h61 hB M3
          apply hK4
          clear hK4 hd4 HM2
          have HM3 : Hid (MR X z wz w s1) := M3
          rcases hB with ⟨rfl, rfl, hno⟩ | ⟨tn, vn, rfl, rfl, htn, hW, hrm, hmin⟩
          · have HNO : Hid (∀ k, k < X.n → W (parB X) s1 j k → rm (parB X) s1 (X.key k) = -1) := hno
            clear hno M3
            obtain ⟨u, hu, ha⟩ := act817 E.hd E.hs
            have e14 := (hu 14).trans E.s14
            have e15 := (hu 15).trans E.s15
            have e16 := (hu 16).trans E.s16
            have e18 := (hu 18).trans E.s18
            have e19 := (hu 19).trans E.s19
            have e21 := (hu 21).trans E.s21
            have e24 := (hu 24).trans E.s24
            have e25 := (hu 25).trans E.s25
            have e26 := (hu 26).trans E.s26
            have e27 := (hu 27).trans E.s27
            have e32 := (hu 32).trans E.s32
            have e33 := (hu 33).trans E.s33
            have e35 := (hu 35).trans E.s35
            have e38 := (hu 38).trans E.s38
            have e39 := (hu 39).trans E.s39
            have e41 := (hu 41).trans E.s41
            have e42 := (hu 42).trans E.s42
            have e43 := (hu 43).trans E.s43
            have e44 := (hu 44).trans E.s44
            have e45 := (hu 45).trans E.s45
            have e46 := (hu 46).trans E.s46
            have e47 := (hu 47).trans E.s47
            have e48 := (hu 48).trans E.s48
            have e50 := (hu 50).trans E.s50
            have e51 := (hu 51).trans E.s51
            have e52 := (hu 52).trans E.s52
            have e53 := (hu 53).trans h53
            have e54 := (hu 54).trans h54
            have e55 := (hu 55).trans h55
            have e58 := (hu 58).trans h58
            have e59 := (hu 59).trans h59
            have e60 := (hu 60).trans h60
            have e61 := (hu 61).trans h61
            clear E hu h53 h54 h55 h58 h59 h60 h61
            subst ha
            simp only [e14, e15, e16, e18, e19, e21, e24, e25, e26, e27, e32, e33, e35, e38, e39, e41, e42, e43, e44, e45, e46, e47, e48, e50, e51, e52, e53, e54, e55, e58, e59, e60, e61, slc]
            clear e14 e15 e16 e18 e19 e21 e24 e25 e26 e27 e32 e33 e35 e38 e39 e41 e42 e43 e44 e45 e46 e47 e48 e50 e51 e52 e53 e54 e55 e58 e59 e60 e61
            go_upto_block 24 with fail
            rename_i K5 hK5
            refine law_cold (j := j) HX.out ⟨rfl, rfl, rfl, rfl, rfl, rfl, rfl, rfl, rfl, rfl, rfl, rfl, rfl, rfl, rfl, rfl, rfl, rfl, rfl, rfl, rfl, rfl, rfl, rfl, rfl, rfl, rfl, rfl⟩ HC.out HM3.out HS.out.2.2 rfl rfl rfl rfl ?_
            intro a w t E h53 h54 h55 h58 h59 hBP M4
            apply hK5
            clear hK5 HM3
            rcases hBP with ⟨rfl, hnone⟩ | ⟨tn, rfl, htn, hW, hmin⟩
            · exfalso
              obtain ⟨i, h1, h2⟩ := cnt_pos.1 HJ1.out.2
              simp only [waits, Bool.and_eq_true, Bool.not_eq_eq_eq_not, Bool.not_true, beq_iff_eq] at h2
              exact hnone i h1 ⟨h1, h2.2, h2.1.1, h2.1.2⟩
            · have HPK : Hid (Pick (parB X) s1 tn c) := by
                show Pick (parB X) s1 tn c
                unfold Pick
                rw [if_pos (show (parB X).sticky = true from HSTK.out)]
                exact ⟨j, HJ1.out.1, hW, Or.inr ⟨fun t' hw => HNO.out t' hw.1 hw, fun t' hw => hmin t' hw.1 hw, HB.out⟩⟩
              have HM4 : Hid (MR X z wz w s1) := M4
              have hroom2 := mr_room HX.out M4 (-1)
              rw [room_a, HB.out] at hroom2
              have hd5 : decide ((tn : Int) < 0) = false := decide_eq_false (by omega)
              have hd6 : decide ((c : Int) < 0) = false := decide_eq_false (by omega)
              clear hW hmin M4
              obtain ⟨u, hu, ha⟩ := act817 E.hd E.hs
              have e14 := (hu 14).trans E.s14
              have e15 := (hu 15).trans E.s15
              have e16 := (hu 16).trans E.s16
              have e18 := (hu 18).trans E.s18
              have e19 := (hu 19).trans E.s19
              have e21 := (hu 21).trans E.s21
              have e24 := (hu 24).trans E.s24
              have e25 := (hu 25).trans E.s25
              have e26 := (hu 26).trans E.s26
              have e27 := (hu 27).trans E.s27
              have e32 := (hu 32).trans E.s32
              have e33 := (hu 33).trans E.s33
              have e35 := (hu 35).trans E.s35
              have e38 := (hu 38).trans E.s38
              have e39 := (hu 39).trans E.s39
              have e41 := (hu 41).trans E.s41
              have e42 := (hu 42).trans E.s42
              have e43 := (hu 43).trans E.s43
              have e44 := (hu 44).trans E.s44
              have e45 := (hu 45).trans E.s45
              have e46 := (hu 46).trans E.s46
              have e47 := (hu 47).trans E.s47
              have e48 := (hu 48).trans E.s48
              have e50 := (hu 50).trans E.s50
              have e51 := (hu 51).trans E.s51
              have e52 := (hu 52).trans E.s52
              have e53 := (hu 53).trans h53
              have e54 := (hu 54).trans h54
              have e55 := (hu 55).trans h55
              have e58 := (hu 58).trans h58
              have e59 := (hu 59).trans h59
              clear E hu h53 h54 h55 h58 h59
              subst ha
              simp only [e14, e15, e16, e18, e19, e21, e24, e25, e26, e27, e32, e33, e35, e38, e39, e41, e42, e43, e44, e45, e46, e47, e48, e50, e51, e52, e53, e54, e55, e58, e59, slc]
              clear e14 e15 e16 e18 e19 e21 e24 e25 e26 e27 e32 e33 e35 e38 e39 e41 e42 e43 e44 e45 e46 e47 e48 e50 e51 e52 e53 e54 e55 e58 e59
              go_wp2_with (first | (go_at_call 13; refine hroom2.mono ?_; clear hroom2; rintro e w2 ⟨rfl, q2, rfl⟩))
              exact HMEET.out _ _ tn c ⟨rfl, rfl, rfl, rfl, rfl, rfl, rfl, rfl, rfl, rfl, rfl, rfl, rfl, rfl, rfl, rfl, rfl, rfl, rfl, rfl, rfl, rfl, rfl, rfl, rfl, rfl, rfl, rfl⟩ rfl rfl rfl rfl rfl rfl HPK.out (HM4.out.drew _)
          · have HPK : Hid (Pick (parB X) s1 tn vn) := by
              show Pick (parB X) s1 tn vn
              unfold Pick
              rw [if_pos (show (parB X).sticky = true from HSTK.out)]
              exact ⟨j, HJ1.out.1, hW, Or.inl ⟨hrm, fun t' hw hl => hmin t' hw.1 hw hl⟩⟩
            have hd5 : decide ((tn : Int) < 0) = false := decide_eq_false (by omega)
            have hd6 : decide ((vn : Int) < 0) = false := decide_eq_false (by omega)
            clear hW hrm hmin M3
            obtain ⟨u, hu, ha⟩ := act817 E.hd E.hs
            have e14 := (hu 14).trans E.s14
            have e15 := (hu 15).trans E.s15
            have e16 := (hu 16).trans E.s16
            have e18 := (hu 18).trans E.s18
            have e19 := (hu 19).trans E.s19
            have e21 := (hu 21).trans E.s21
            have e24 := (hu 24).trans E.s24
            have e25 := (hu 25).trans E.s25
            have e26 := (hu 26).trans E.s26
            have e27 := (hu 27).trans E.s27
            have e32 := (hu 32).trans E.s32
            have e33 := (hu 33).trans E.s33
            have e35 := (hu 35).trans E.s35
            have e38 := (hu 38).trans E.s38
            have e39 := (hu 39).trans E.s39
            have e41 := (hu 41).trans E.s41
            have e42 := (hu 42).trans E.s42
            have e43 := (hu 43).trans E.s43
            have e44 := (hu 44).trans E.s44
            have e45 := (hu 45).trans E.s45
            have e46 := (hu 46).trans E.s46
            have e47 := (hu 47).trans E.s47
            have e48 := (hu 48).trans E.s48
            have e50 := (hu 50).trans E.s50
            have e51 := (hu 51).trans E.s51
            have e52 := (hu 52).trans E.s52
            have e53 := (hu 53).trans h53
            have e54 := (hu 54).trans h54
            have e55 := (hu 55).trans h55
            have e58 := (hu 58).trans h58
            have e59 := (hu 59).trans h59
            have e60 := (hu 60).trans h60
            have e61 := (hu 61).trans h61
            clear E hu h53 h54 h55 h58 h59 h60 h61
            subst ha
            simp only [e14, e15, e16, e18, e19, e21, e24, e25, e26, e27, e32, e33, e35, e38, e39, e41, e42, e43, e44, e45, e46, e47, e48, e50, e51, e52, e53, e54, e55, e58, e59, e60, e61, slc]
            clear e14 e15 e16 e18 e19 e21 e24 e25 e26 e27 e32 e33 e35 e38 e39 e41 e42 e43 e44 e45 e46 e47 e48 e50 e51 e52 e53 e54 e55 e58 e59 e60 e61
            go_wp2
            exact HMEET.out _ _ tn vn ⟨rfl, rfl, rfl, rfl, rfl, rfl, rfl, rfl, rfl, rfl, rfl, rfl, rfl, rfl, rfl, rfl, rfl, rfl, rfl, rfl, rfl, rfl, rfl, rfl, rfl, rfl, rfl, rfl⟩ rfl rfl rfl rfl rfl rfl HPK.out HM3.out
    | false =>
      have HSTK : Hid (X.sticky = false) := hst
      clear hst
      go_upto_block 26 with fail
      rename_i K3 hK3
      refine law_pin HX.out ⟨rfl, rfl, rfl, rfl, rfl, rfl, rfl, rfl, rfl, rfl, rfl, rfl, rfl, rfl, rfl, (by show _ = Value.bool X.sticky; rw [HSTK.out]; rfl), rfl, rfl, rfl, rfl, rfl, rfl, rfl, rfl, rfl, rfl, rfl, rfl⟩ HC.out HM1.out HS.out.2.2 rfl rfl rfl rfl ?_
      intro a w t v E h53 h54 h55 h58 h59 h60 hP M2
      apply hK3
      clear hK3
      have HM2 : Hid (MR X z wz w s1) := M2
      rcases hP with ⟨rfl, rfl, hno⟩ | ⟨tn, vn, rfl, rfl, htn, hpk⟩
      · have HNP : Hid (NoPick (parB X) s1) := by
          show NoPick (parB X) s1
          unfold NoPick
          rw [if_neg (by rw [show (parB X).sticky = false from HSTK.out]; simp)]
          exact fun v hv hf t hw => hno v hv hf t hw
        clear hno M2
        obtain ⟨u, hu, ha⟩ := act817 E.hd E.hs
        have e14 := (hu 14).trans E.s14
        have e15 := (hu 15).trans E.s15
        have e16 := (hu 16).trans E.s16
        have e18 := (hu 18).trans E.s18
        have e19 := (hu 19).trans E.s19
        have e21 := (hu 21).trans E.s21
        have e24 := (hu 24).trans E.s24
        have e25 := (hu 25).trans E.s25
        have e26 := (hu 26).trans E.s26
        have e27 := (hu 27).trans E.s27
        have e32 := (hu 32).trans E.s32
        have e33 := (hu 33).trans E.s33
        have e35 := (hu 35).trans E.s35
        have e38 := (hu 38).trans E.s38
        have e39 := (hu 39).trans E.s39
        have e41 := (hu 41).trans E.s41
        have e42 := (hu 42).trans E.s42
        have e43 := (hu 43).trans E.s43
        have e44 := (hu 44).trans E.s44
        have e45 := (hu 45).trans E.s45
        have e46 := (hu 46).trans E.s46
        have e47 := (hu 47).trans E.s47
        have e48 := (hu 48).trans E.s48
        have e50 := (hu 50).trans E.s50
        have e51 := (hu 51).trans E.s51
        have e52 := (hu 52).trans E.s52
        have e53 := (hu 53).trans h53
        have e54 := (hu 54).trans h54
        have e55 := (hu 55).trans h55
        have e58 := (hu 58).trans h58
        have e59 := (hu 59).trans h59
        have e60 := (hu 60).trans h60
        clear E hu h53 h54 h55 h58 h59 h60
        subst ha
        simp only [e14, e15, e16, e18, e19, e21, e24, e25, e26, e27, e32, e33, e35, e38, e39, e41, e42, e43, e44, e45, e46, e47, e48, e50, e51, e52, e53, e54, e55, e58, e59, e60, slc]
        clear e14 e15 e16 e18 e19 e21 e24 e25 e26 e27 e32 e33 e35 e38 e39 e41 e42 e43 e44 e45 e46 e47 e48 e50 e51 e52 e53 e54 e55 e58 e59 e60
        go_wp2
        exact HK.out _ _ s1 ⟨rfl, rfl, rfl, rfl, rfl, rfl, rfl, rfl, rfl, rfl, rfl, rfl, rfl, rfl, rfl, rfl, rfl, rfl, rfl, rfl, rfl, rfl, rfl, rfl, rfl, rfl, rfl, rfl⟩ rfl rfl rfl (HS.out.1 _ (Starts.stop HNP.out)) HM2.out
      · have HPK : Hid (Pick (parB X) s1 tn vn) := by
          show Pick (parB X) s1 tn vn
          unfold Pick
          rw [if_neg (by rw [show (parB X).sticky = false from HSTK.out]; simp)]
          exact hpk
        have hd5 : decide ((tn : Int) < 0) = false := decide_eq_false (by omega)
        clear hpk M2
        obtain ⟨u, hu, ha⟩ := act817 E.hd E.hs
        have e14 := (hu 14).trans E.s14
        have e15 := (hu 15).trans E.s15
        have e16 := (hu 16).trans E.s16
        have e18 := (hu 18).trans E.s18
        have e19 := (hu 19).trans E.s19
        have e21 := (hu 21).trans E.s21
        have e24 := (hu 24).trans E.s24
        have e25 := (hu 25).trans E.s25
        have e26 := (hu 26).trans E.s26
        have e27 := (hu 27).trans E.s27
        have e32 := (hu 32).trans E.s32
        have e33 := (hu 33).trans E.s33
        have e35 := (hu 35).trans E.s35
        have e38 := (hu 38).trans E.s38
        have e39 := (hu 39).trans E.s39
        have e41 := (hu 41).trans E.s41
        have e42 := (hu 42).trans E.s42
        have e43 := (hu 43).trans E.s43
        have e44 := (hu 44).trans E.s44
        have e45 := (hu 45).trans E.s45
        have e46 := (hu 46).trans E.s46
        have e47 := (hu 47).trans E.s47
        have e48 := (hu 48).trans E.s48
        have e50 := (hu 50).trans E.s50
        have e51 := (hu 51).trans E.s51
        have e52 := (hu 52).trans E.s52
        have e53 := (hu 53).trans h53
        have e54 := (hu 54).trans h54
        have e55 := (hu 55).trans h55
        have e58 := (hu 58).trans h58
        have e59 := (hu 59).trans h59
        have e60 := (hu 60).trans h60
        clear E hu h53 h54 h55 h58 h59 h60
        subst ha
        simp only [e14, e15, e16, e18, e19, e21, e24, e25, e26, e27, e32, e33, e35, e38, e39, e41, e42, e43, e44, e45, e46, e47, e48, e50, e51, e52, e53, e54, e55, e58, e59, e60, slc]
        clear e14 e15 e16 e18 e19 e21 e24 e25 e26 e27 e32 e33 e35 e38 e39 e41 e42 e43 e44 e45 e46 e47 e48 e50 e51 e52 e53 e54 e55 e58 e59 e60
        go_wp2
        exact HMEET.out _ _ tn vn ⟨rfl, rfl, rfl, rfl, rfl, rfl, rfl, rfl, rfl, rfl, rfl, rfl, rfl, rfl, rfl, rfl, rfl, rfl, rfl, rfl, rfl, rfl, rfl, rfl, rfl, rfl, rfl, rfl⟩ rfl rfl rfl rfl rfl rfl HPK.out HM2.out
end Go.Proofs.Ybulkdpsg

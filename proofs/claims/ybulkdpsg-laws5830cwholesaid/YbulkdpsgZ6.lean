/- S5830C: the law: what happens next. -/
import Derived.Test.YbulkdpsgZ3
namespace Go.Proofs.Ybulkdpsg
open Go Go.RowKit Go.Sort Go.Proofs Go.Lib
set_option linter.unusedVariables false
set_option linter.unusedSimpArgs false
/-- What happens next, of those up to i. -/
def EvI (B : Par) (s : MS) (i x : Nat) : Prop := (∃ k, k < i ∧ s.started k = true ∧ s.ended k = false ∧ s.en k = x) ∨ ∃ k, k < i ∧ s.arrived k = false ∧ B.arr k = x
def NxR (E : Nat → Prop) (f : Bool) (x : Nat) : Prop := (f = false ∧ ∀ y, ¬ E y) ∨ (f = true ∧ E x ∧ ∀ y, E y → x ≤ y)
theorem NxR.step {E : Nat → Prop} {f : Bool} {x : Nat} (h : NxR E f x) (c : Bool) (e : Nat) : NxR (fun y => E y ∨ (c = true ∧ y = e)) (if c && (!f || decide (e < x)) then true else f) (if c && (!f || decide (e < x)) then e else x) := by
  cases c with
  | false =>
    simp only [Bool.false_and, Bool.false_eq_true, ↓reduceIte]
    rcases h with ⟨h1, h2⟩ | ⟨h1, h2, h3⟩
    · exact Or.inl ⟨h1, fun y hy => by rcases hy with hy | hy; exact h2 y hy; cases hy.1⟩
    · exact Or.inr ⟨h1, Or.inl h2, fun y hy => by rcases hy with hy | hy; exact h3 y hy; cases hy.1⟩
  | true =>
    rcases h with ⟨rfl, h2⟩ | ⟨rfl, h2, h3⟩
    · simp only [Bool.not_false, Bool.true_or, Bool.and_self, ↓reduceIte]
      exact Or.inr ⟨rfl, Or.inr (by simp), fun y hy => by rcases hy with hy | hy; exact (h2 y hy).elim; omega⟩
    · by_cases hlt : e < x
      · simp only [hlt, decide_true, Bool.or_true, Bool.and_self, ↓reduceIte]
        exact Or.inr ⟨rfl, Or.inr (by simp), fun y hy => by rcases hy with hy | hy; have := h3 y hy; omega; omega⟩
      · simp only [hlt, decide_false, Bool.not_true, Bool.or_false, Bool.and_false, Bool.false_eq_true, ↓reduceIte]
        exact Or.inr ⟨rfl, Or.inl h2, fun y hy => by rcases hy with hy | hy; exact h3 y hy; omega⟩
theorem NxR.congr {E E' : Nat → Prop} {f : Bool} {x : Nat} (h : NxR E f x) (he : ∀ y, E y ↔ E' y) : NxR E' f x := by
  rcases h with ⟨h1, h2⟩ | ⟨h1, h2, h3⟩
  · exact Or.inl ⟨h1, fun y hy => h2 y ((he y).2 hy)⟩
  · exact Or.inr ⟨h1, (he x).1 h2, fun y hy => h3 y ((he y).2 hy)⟩
set_option maxRecDepth 100000 in
set_option maxHeartbeats 16000000 in
theorem law_next {X : Inp} (hX : InpOk X) {z bj bk bd ba bru bx bn now : Nat} {wz w : World} {s : MS} {a : Act} {K : Act → World → Prop} {Q : Exit → Act → World → Prop} (E : Env X z bj bk bd ba bru bx bn a) (C : Cst X bj bk bd ba wz) (M : MR X z wz w s) (hnow : s.now = now) (s53 : sl a 53 = .int .i64 (now : Int)) (s70 : sl a 70 = .bool false) (s71 : sl a 71 = .int .i64 0) (s72 : sl a 72 = .int .i64 0)
    (hK : ∀ a' w' (f : Bool) (x : Nat), Env X z bj bk bd ba bru bx bn a' → sl a' 53 = .int .i64 (now : Int) → sl a' 54 = sl a 54 → sl a' 55 = sl a 55 → sl a' 70 = .bool f → sl a' 71 = .int .i64 (x : Int) → NxR (Event (parB X) s) f x → MR X z wz w' s → K a' w') :
    Code.wp Yba.prog (.block 30 (blk 30)) (Exit.then K Q) a w := by
  obtain ⟨u, hu, ha⟩ := act817 E.hd E.hs
  have e14 := (hu 14).trans E.s14
  have e15 := (hu 15).trans E.s15
  have e16 := (hu 16).trans E.s16
  have e18 := (hu 18).trans E.s18
  have e19 := (hu 19).trans E.s19
  have e21 := (hu 21).trans E.s21
  have e24 := (hu 24).trans E.s24
  have e25 := (hu 25).trans E.s25
  have e26 := (hu 26).trans E.s26
  have e27 := (hu 27).trans E.s27
  have e32 := (hu 32).trans E.s32
  have e33 := (hu 33).trans E.s33
  have e35 := (hu 35).trans E.s35
  have e38 := (hu 38).trans E.s38
  have e39 := (hu 39).trans E.s39
  have e41 := (hu 41).trans E.s41
  have e42 := (hu 42).trans E.s42
  have e43 := (hu 43).trans E.s43
  have e44 := (hu 44).trans E.s44
  have e45 := (hu 45).trans E.s45
  have e46 := (hu 46).trans E.s46
  have e47 := (hu 47).trans E.s47
  have e48 := (hu 48).trans E.s48
  have e50 := (hu 50).trans E.s50
  have e51 := (hu 51).trans E.s51
  have e52 := (hu 52).trans E.s52
  have e53 := (hu 53).trans s53
  have e70 := (hu 70).trans s70
  have e71 := (hu 71).trans s71
  have e72 := (hu 72).trans s72
  have h54 : sl a 54 = u 54 := (hu 54).symm
  have h55 : sl a 55 = u 55 := (hu 55).symm
  rw [h54, h55] at hK
  clear E hu s53 s70 s71 s72 h54 h55
  subst ha
  simp only [e14, e15, e16, e18, e19, e21, e24, e25, e26, e27, e32, e33, e35, e38, e39, e41, e42, e43, e44, e45, e46, e47, e48, e50, e51, e52, e53, e70, e71, e72, slc]
  clear e14 e15 e16 e18 e19 e21 e24 e25 e26 e27 e32 e33 e35 e38 e39 e41 e42 e43 e44 e45 e46 e47 e48 e50 e51 e52 e53 e70 e71 e72
  conv => arg 2; arg 2; whnf
  have mixed := mixedYba
  have hn := hX.b1
  have HX : Hid (InpOk X) := hX
  have HC : Hid (Cst X bj bk bd ba wz) := C
  have HM : Hid (MR X z wz w s) := M
  clear hX C M hnow
  go_wp2_with fail
  go_loopg [72, 70, 71] X.n (fun g v72 v70 v71 wr => ∃ (i x : Nat) (f : Bool), v72 = .int .i64 (i : Int) ∧ v70 = .bool f ∧ v71 = .int .i64 (x : Int) ∧ i ≤ X.n ∧ Hid (g = X.n - i ∧ NxR (EvI (parB X) s i) f x ∧ MR X z wz wr s))
  case atStart => exact ⟨0, 0, false, rfl, rfl, rfl, Nat.zero_le _, by omega, Or.inl ⟨rfl, fun y hy => by rcases hy with ⟨k, hk, _⟩ | ⟨k, hk, _⟩ <;> omega⟩, HM.out⟩
  case round =>
    obtain ⟨i, x, f, rfl, rfl, rfl, hi, HR⟩ := hrel
    by_cases hlt : i < X.n
    · have zi : (i : Int) < (X.n : Int) := by omega
      have c41 : wr.cell? ⟨z + 1, i, none⟩ = some (.bool (s.arrived i)) := HR.out.2.2.r1.cell hlt
      have c42 : wr.cell? ⟨z + 2, i, none⟩ = some (.bool (s.started i)) := HR.out.2.2.r2.cell hlt
      have c43 : wr.cell? ⟨z + 3, i, none⟩ = some (.bool (s.ended i)) := HR.out.2.2.r3.cell hlt
      have c46 : wr.cell? ⟨z + 6, i, none⟩ = some (.int .i64 (s.en i : Int)) := HR.out.2.2.r6.cell hlt
      have c27 : wr.cell? ⟨ba, i, none⟩ = some (.int .i64 (X.arr i : Int)) := HR.out.2.2.fr.cell (HC.out.a.cell hlt) (by simp)
      have HST : Hid _ := (HR.out.2.1.step (s.started i && !s.ended i) (s.en i)).step (!s.arrived i) (X.arr i)
      have HEV : Hid (∀ y, ((EvI (parB X) s i y ∨ ((s.started i && !s.ended i) = true ∧ y = s.en i)) ∨ ((!s.arrived i) = true ∧ y = X.arr i)) ↔ EvI (parB X) s (i + 1) y) := fun y => by
        unfold EvI
        constructor
        · rintro ((h | ⟨h1, h2⟩) | ⟨h1, h2⟩)
          · rcases h with ⟨k, h1, h2⟩ | ⟨k, h1, h2⟩
            · exact Or.inl ⟨k, by omega, h2⟩
            · exact Or.inr ⟨k, by omega, h2⟩
          · simp at h1; exact Or.inl ⟨i, by omega, h1.1, h1.2, h2.symm⟩
          · simp at h1; exact Or.inr ⟨i, by omega, h1, h2.symm⟩
        · rintro (⟨k, h1, h2, h3, h4⟩ | ⟨k, h1, h2, h3⟩)
          · by_cases e : k = i
            · subst e; exact Or.inl (Or.inr ⟨by simp [h2, h3], h4.symm⟩)
            · exact Or.inl (Or.inl (Or.inl ⟨k, by omega, h2, h3, h4⟩))
          · by_cases e : k = i
            · subst e; exact Or.inr ⟨by simp [h2], h3.symm⟩
            · exact Or.inl (Or.inl (Or.inr ⟨k, by omega, h2, h3⟩))
      have HMR : Hid (gk = X.n - i ∧ MR X z wz wr s) := ⟨HR.out.1, HR.out.2.2⟩
      clear HR
      generalize s.arrived i = bA at c41 HST HEV
      generalize s.started i = bS at c42 HST HEV
      generalize s.ended i = bE at c43 HST HEV
      generalize s.en i = en at c46 HST HEV
      generalize X.arr i = ar at c27 HST HEV
      obtain ⟨c1, hc1⟩ : ∃ c, c = ((bS && !bE) && (!f || decide (en < x))) := ⟨_, rfl⟩
      have HC1 : Hid (c1 = ((bS && !bE) && (!f || decide (en < x)))) := hc1
      clear hc1
      go_upto_region 146 with fail
      go_cut [685] from 663 to 684 (fun v wx => v = .bool c1 ∧ wr = wx)
      case first =>
        have hc1 := HC1.out
        cases bS with
        | false => (have e1 : c1 = false := hc1); clear hc1; subst e1; go_wp2; go_meet; exact ⟨rfl, rfl⟩
        | true =>
          cases bE with
          | true => (have e1 : c1 = false := hc1); clear hc1; subst e1; go_wp2; go_meet; exact ⟨rfl, rfl⟩
          | false =>
            cases f with
            | false => (have e1 : c1 = true := hc1); clear hc1; subst e1; go_wp2; go_meet; exact ⟨rfl, rfl⟩
            | true =>
              by_cases hl : en < x
              · have e1 : c1 = true := by rw [hc1]; simp [hl]
                have hd : decide ((en : Int) < (x : Int)) = true := decide_eq_true (by omega)
                have hd2 : decide (en < x) = true := decide_eq_true hl
                clear hc1 hl; subst e1; go_wp2; go_meet; exact ⟨rfl, rfl⟩
              · have e1 : c1 = false := by rw [hc1]; simp [hl]
                have hd : decide ((en : Int) < (x : Int)) = false := decide_eq_false (by omega)
                have hd2 : decide (en < x) = false := decide_eq_false hl
                clear hc1 hl; subst e1; go_wp2; go_meet; exact ⟨rfl, rfl⟩
      case rest =>
      obtain ⟨rfl, rfl⟩ := hcut
      obtain ⟨f1, hf1⟩ : ∃ y, y = (if c1 then true else f) := ⟨_, rfl⟩
      obtain ⟨x1, hx1⟩ : ∃ y, y = (if c1 then en else x) := ⟨_, rfl⟩
      have HF1 : Hid (f1 = (if c1 then true else f) ∧ x1 = (if c1 then en else x)) := ⟨hf1, hx1⟩
      clear hf1 hx1
      go_upto_if 685 with fail
      go_cut [70, 71] from 686 to 689 (fun v70 v71 wx => v70 = .bool f1 ∧ v71 = .int .i64 (x1 : Int) ∧ wr = wx)
      case first =>
        have h1 := HF1.out
        cases c1 with
        | true => obtain ⟨e1, e2⟩ : f1 = true ∧ x1 = en := h1; subst e1 e2; go_wp2; go_meet; exact ⟨rfl, rfl, rfl⟩
        | false => obtain ⟨e1, e2⟩ : f1 = f ∧ x1 = x := h1; subst e1 e2; go_wp2; go_meet; exact ⟨rfl, rfl, rfl⟩
      case rest =>
      obtain ⟨rfl, rfl, rfl⟩ := hcut
      obtain ⟨c2, hc2⟩ : ∃ c, c = (!bA && (!f1 || decide (ar < x1))) := ⟨_, rfl⟩
      have HC2 : Hid (c2 = (!bA && (!f1 || decide (ar < x1)))) := hc2
      clear hc2
      go_upto_region 149 with fail
      go_cut [706] from 690 to 705 (fun v wx => v = .bool c2 ∧ wr = wx)
      case first =>
        have hc1 := HC2.out
        cases bA with
        | true => (have e1 : c2 = false := hc1); clear hc1; subst e1; go_wp2; go_meet; exact ⟨rfl, rfl⟩
        | false =>
          cases f1 with
          | false => (have e1 : c2 = true := hc1); clear hc1; subst e1; go_wp2; go_meet; exact ⟨rfl, rfl⟩
          | true =>
            by_cases hl : ar < x1
            · have e1 : c2 = true := by rw [hc1]; simp [hl]
              have hd : decide ((ar : Int) < (x1 : Int)) = true := decide_eq_true (by omega)
              have hd2 : decide (ar < x1) = true := decide_eq_true hl
              clear hc1 hl; subst e1; go_wp2; go_meet; exact ⟨rfl, rfl⟩
            · have e1 : c2 = false := by rw [hc1]; simp [hl]
              have hd : decide ((ar : Int) < (x1 : Int)) = false := decide_eq_false (by omega)
              have hd2 : decide (ar < x1) = false := decide_eq_false hl
              clear hc1 hl; subst e1; go_wp2; go_meet; exact ⟨rfl, rfl⟩
      case rest =>
      obtain ⟨rfl, rfl⟩ := hcut
      have HFIN : Hid (NxR (EvI (parB X) s (i + 1)) (if c2 then true else f1) (if c2 then ar else x1)) := by
        have h1 := HST.out
        rw [← HC1.out, ← HF1.out.1, ← HF1.out.2, ← HC2.out] at h1
        exact NxR.congr h1 HEV.out
      cases c2 with
      | true =>
        go_wp2
        go_roundg (X.n - (i + 1))
        case measure => have : gk = X.n - i := HMR.out.1; omega
        case rel => exact ⟨i + 1, ar, true, rfl, rfl, rfl, by omega, rfl, HFIN.out, HMR.out.2⟩
      | false =>
        go_wp2
        go_roundg (X.n - (i + 1))
        case measure => have : gk = X.n - i := HMR.out.1; omega
        case rel => exact ⟨i + 1, x1, f1, rfl, rfl, rfl, by omega, rfl, HFIN.out, HMR.out.2⟩
    · have ei : i = X.n := by omega
      have zi : ¬ (i : Int) < (X.n : Int) := by omega
      have HE : Hid (i = X.n) := ei
      clear ei
      go_wp2
      refine hK _ _ f x ⟨rfl, rfl, rfl, rfl, rfl, rfl, rfl, rfl, rfl, rfl, rfl, rfl, rfl, rfl, rfl, rfl, rfl, rfl, rfl, rfl, rfl, rfl, rfl, rfl, rfl, rfl, rfl, rfl⟩ rfl rfl rfl rfl rfl ?_ HR.out.2.2
      have := HR.out.2.1
      rw [HE.out] at this
      exact this
end Go.Proofs.Ybulkdpsg

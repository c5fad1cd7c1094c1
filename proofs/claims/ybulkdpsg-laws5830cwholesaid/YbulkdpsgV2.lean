/- S5830C: the pinned placement as the machine sees it. -/
import Derived.Test.YbulkdpsgV1
import Derived.Test.YbulkdpsgP2
namespace Go.Proofs.Ybulkdpsg
open Go Go.RowKit Go.Sort Go.Proofs Go.Lib
set_option linter.unusedVariables false
set_option linter.unusedSimpArgs false

/-- The tasks' row is the machine's. -/
structure TA (A : Par) (d : Array Tk) (ρ : Nat → Nat) : Prop where
  size : d.size = A.n
  row : ∀ t, t < A.n → d[t]!.row = (ρ t : Int) ∧ ρ t < A.n
  job : ∀ t, t < A.n → d[t]!.job = (A.job t : Int)
  key : ∀ t, t < A.n → d[t]!.key = (A.key t : Int)
  dur : ∀ t, t < A.n → d[t]!.dur = (A.dur t : Int)
  arr : ∀ t, t < A.n → d[t]!.arr = (A.arr t : Int)
def TP (x : Nat) : Prop := 41 ≤ x ∧ x < 200 ∧ x ≠ 50
def ArrPost (PL : (Nat → Nat) → World → MS → Prop) (own : Nat → Nat) (w : World) (s : MS) (t : Nat) (e : Ending) (w' : World) : Prop := e = .returned (.tuple #[]) ∧ ∃ own', PL own' w' (arrOne s t) ∧ OwnUp w own own' ∧ FrT own TP w w'
def EndPost (PL : (Nat → Nat) → World → MS → Prop) (own : Nat → Nat) (w : World) (s : MS) (t : Nat) (e : Ending) (w' : World) : Prop := e = .returned (.tuple #[]) ∧ ∃ own', PL own' w' (endOne s t) ∧ OwnUp w own own' ∧ FrT own TP w w'
def NextPost (PL : (Nat → Nat) → World → MS → Prop) (A : Par) (own : Nat → Nat) (w : World) (s : MS) (e : Ending) (w' : World) : Prop := ∃ own', OwnUp w own own' ∧ FrT own TP w w' ∧
  ((NoPick A s ∧ e = .returned (.tuple #[.int .i64 0, .int .i64 0, .bool false]) ∧ PL own' w' s) ∨
   ∃ t v : Nat, Pick A s t v ∧ e = .returned (.tuple #[.int .i64 (t : Int), .int .i64 (v : Int), .bool true]) ∧ PL own' w' (start A s t v))
def qP (A : Par) (s : MS) (v t : Nat) : Bool := s.arrived t && !s.started t && A.own (A.key t) == v
def PLp (base bt bw bp : Nat) (A : Par) (own : Nat → Nat) (w : World) (s : MS) : Prop := ∃ J q, J.bp = bp ∧ Pi own w base bt A.n bw A.nK A.nW J A.own q ∧ ∀ v, v < A.nW → q v = flt A.n (qP A s v)
theorem Pi.kept {own own' : Nat → Nat} {T : Nat → Prop} {w w' : World} {base bt n bw nK nW : Nat} {J : PId} {owner : Nat → Nat} {q : Nat → List Nat} (h : Pi own w base bt n bw nK nW J owner q) (hf : FrT own T w w') (hu : OwnUp w own own') (hT : ∀ x, T x → ¬ (51 ≤ x ∧ x < 70)) : Pi own' w' base bt n bw nK nW J owner q := by
  have nT : ∀ x, 51 ≤ x → x < 70 → ¬ T x := fun x h1 h2 ht => hT x ht ⟨h1, h2⟩
  have b2 := h.b2
  exact ⟨by rw [hu _ h.row.lt]; exact h.op, by rw [hu _ h.ro.lt]; exact h.oo, by rw [hu _ h.rq.lt]; exact h.oq_, fun v hv b hb => by rw [hu _ ((h.oq v hv).lt b hb)]; exact h.ov v hv b hb, hf.row h.row (by rw [h.op]; exact nT _ (by omega) (by omega)), hf.row h.ro (by rw [h.oo]; exact nT _ (by omega) (by omega)), hf.row h.rq (by rw [h.oq_]; exact nT _ (by omega) (by omega)), fun v hv => (h.oq v hv).frT hf (fun b hb => by rw [h.ov v hv b hb]; exact nT _ (by omega) (by omega)), h.ol, h.ql, h.b1, h.b2⟩
theorem PLp.kept {base bt bw bp : Nat} {A : Par} {own own' : Nat → Nat} {w w' : World} {s : MS} {T : Nat → Prop} (h : PLp base bt bw bp A own w s) (hf : FrT own T w w') (hu : OwnUp w own own') (hT : ∀ x, T x → ¬ TP x) : PLp base bt bw bp A own' w' s := by
  obtain ⟨J, q, h1, h2, h3⟩ := h
  exact ⟨J, q, h1, h2.kept hf hu (fun x hx hh => hT x hx ⟨by omega, by omega, by omega⟩), h3⟩
/-- What of the machine's state the placement does not look at. -/
theorem PLp.same {base bt bw bp : Nat} {A : Par} {own : Nat → Nat} {w : World} {s s' : MS} (h : PLp base bt bw bp A own w s) (h1 : s'.arrived = s.arrived) (h2 : s'.started = s.started) : PLp base bt bw bp A own w s' := by
  obtain ⟨J, q, a, b, c⟩ := h
  refine ⟨J, q, a, b, fun v hv => ?_⟩
  rw [c v hv]
  exact flt_congr fun i hi => by unfold qP; rw [h1, h2]
theorem arrP {base bt bw bp : Nat} {A : Par} {own : Nat → Nat} {w : World} {s : MS} {d : Array Tk} {ρ : Nat → Nat} (hPB : PB A) (h : PLp base bt bw bp A own w s) (ht : Tks own w bt A.n A.nK d A.key) (hbase : base ≤ w.heap.size) (t : Nat) (htn : t < A.n) (ha : s.arrived t = false) (hs : s.started t = false) (hlt : ∀ i, s.arrived i = true → i < t) :
    Calls Yba.prog 94 #[pn bp 0, .int .i64 (t : Int)] w fun e w' => ArrPost (PLp base bt bw bp A) own w s t e w' := by
  obtain ⟨J, q, rfl, h2, h3⟩ := h
  have hv := (hPB.k t htn).2.2.2.2
  have hb1 := hPB.b1
  refine (arrive94 h2 ht hbase t htn ?_).mono ?_
  · rw [h3 _ hv, flt_len]
    have := cnt_lt_n (p := qP A s (A.own (A.key t))) htn (by simp [qP, ha])
    omega
  · rintro e w' ⟨h4, own', J', h5, h6, h7, h8⟩
    refine ⟨h4, own', ⟨J', _, h6, h5, fun v hv' => ?_⟩, h7, h8.mono (fun x hx => ⟨by omega, by omega, by omega⟩)⟩
    by_cases e : v = A.own (A.key t)
    · subst e
      rw [setL_same, h3 _ hv']
      exact (flt_add htn (fun i hi hp => hlt i (by simp [qP] at hp; exact hp.1.1)) (by simp [qP, arrOne, upd, hs]) (fun i hi hne => by simp [qP, arrOne, upd, hne])).symm
    · rw [setL_other _ _ e, h3 v hv']
      refine flt_congr fun i hi => ?_
      by_cases e2 : i = t
      · subst e2
        have hb : (A.own (A.key i) == v) = false := beq_false_of_ne (fun h => e h.symm)
        simp [qP, hb]
      · simp [qP, arrOne, upd, e2]
theorem endP {base bt bw bp : Nat} {A : Par} {own : Nat → Nat} {w : World} {s : MS} (h : PLp base bt bw bp A own w s) (t : Nat) :
    Calls Yba.prog 95 #[pn bp 0, .int .i64 (t : Int)] w fun e w' => EndPost (PLp base bt bw bp A) own w s t e w' :=
  (ended95 bp t w).mono fun e w' ⟨h1, h2⟩ => by
    subst h2
    exact ⟨h1, own, h.same rfl rfl, OwnUp.refl _ _, FrT.refl _ _ _⟩
theorem nextP {base bt bp sz : Nat} {pen : Int} {A : Par} {own : Nat → Nat} {w : World} {s : MS} {I : Ids} {S : WSt} (hPB : PB A) (hst : A.sticky = false) (hlt : A.lt = fun a b => a < b) (M : MI A s) (h : PLp base bt I.bw bp A own w s) (hw : WS own w base A.nW A.nK sz sz pen I S) (hr : WRel A s S) (now : Int) :
    Calls Yba.prog 96 #[pn bp 0, .int .i64 now] w fun e w' => NextPost (PLp base bt I.bw bp A) A own w s e w' := by
  obtain ⟨J, q, rfl, h2, h3⟩ := h
  refine (next96 h2 hw now).mono ?_
  rintro e w' (⟨h4, h5, h6⟩ | ⟨v, t, r, hv, hq, hf, hu, he, J', hp, hj, hfr⟩)
  · subst h6
    refine ⟨own, OwnUp.refl _ _, FrT.refl _ _ _, Or.inl ⟨?_, h5, J, q, rfl, h2, h3⟩⟩
    unfold NoPick
    rw [hst]
    simp only [Bool.false_eq_true, ↓reduceIte]
    intro v hv hf t hw'
    rcases h4 v hv with a | a
    · rw [h3 v hv, flt_nil] at a
      have := a t hw'.1
      simp [qP, hw'.2.2.1, hw'.2.2.2, hw'.2.1] at this
    · rw [hr.free v hv] at a; omega
  · have hfl : flt A.n (qP A s v) = t :: r := by rw [← h3 v hv]; exact hq
    obtain ⟨a1, a2, a3⟩ := flt_head hfl
    simp only [qP, Bool.and_eq_true, Bool.not_eq_eq_eq_not, Bool.not_true, beq_iff_eq] at a2
    refine ⟨own, OwnUp.refl _ _, hfr.mono (fun x hx => ⟨by omega, by omega, by omega⟩), Or.inr ⟨t, v, ?_, he, J', _, hj, hp, fun u hu' => ?_⟩⟩
    · unfold Pick
      rw [hst]
      simp only [Bool.false_eq_true, ↓reduceIte]
      refine ⟨hv, by rw [← hr.free v hv]; omega, ⟨a1, a2.2, a2.1.1, a2.1.2⟩, fun t' ht' => ?_, fun u huv hfu t' ht' => ?_⟩
      · rw [hlt]
        have := a3 t' ht'.1 (by simp [qP, ht'.2.2.1, ht'.2.2.2, ht'.2.1])
        omega
      · rcases hu u huv with a | a
        · rw [h3 u (by omega), flt_nil] at a
          have := a t' ht'.1
          simp [qP, ht'.2.2.1, ht'.2.2.2, ht'.2.1] at this
        · rw [hr.free u (by omega)] at a; omega
    · by_cases e2 : u = v
      · subst e2
        rw [setL_same]
        exact (flt_tail hfl (by simp [qP, start, upd]) (fun i hi hne => by simp [qP, start, upd, hne])).symm
      · rw [setL_other _ _ e2, h3 u hu']
        refine flt_congr fun i hi => ?_
        by_cases e3 : i = t
        · subst e3
          have hb : (A.own (A.key i) == u) = false := beq_false_of_ne (fun h => e2 (by rw [← h, a2.2]))
          simp [qP, hb]
        · simp [qP, start, upd, e3]
end Go.Proofs.Ybulkdpsg

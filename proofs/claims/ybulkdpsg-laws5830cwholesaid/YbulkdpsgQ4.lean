/- S5830C: the machine goes on; where it ends all tasks have ended. -/
import Derived.Test.YbulkdpsgQ3
namespace Go.Proofs.Ybulkdpsg
set_option linter.unusedVariables false
set_option linter.unusedSimpArgs false

theorem starts_keep {P : Par} {s a : MS} (h : Starts P s a) : a.now = s.now ∧ a.arrived = s.arrived ∧ a.ended = s.ended := by
  induction h with
  | stop _ => exact ⟨rfl, rfl, rfl⟩
  | go _ _ ih => exact ih
theorem starts_end {P : Par} {s a : MS} (h : Starts P s a) : NoPick P a := by
  induction h with
  | stop h => exact h
  | go _ _ ih => exact ih
theorem starts_mi {P : Par} (hP : PB P) {s a : MS} (h : Starts P s a) : MI P s → MI P a := by
  induction h with
  | stop _ => exact id
  | go h _ ih =>
    intro M
    have hf := pick_facts h
    exact ih (M.start hP hf.1 hf.2.1 hf.2.2.1 hf.2.2.2.1 hf.2.2.2.2)
def meas (P : Par) (s : MS) : Nat := (P.n - cnt P.n s.ended) + (P.n - cnt P.n s.arrived)
theorem cnt_lt {n i : Nat} {p q : Nat → Bool} (hi : i < n) (hp : p i = false) (hq : q i = true) (h : ∀ j, j < n → p j = true → q j = true) : cnt n p < cnt n q := by
  have h1 : cnt n (upd p i true) = cnt n p + 1 := cnt_add n hi hp (upd_same _ _ _) (fun j _ hne => upd_other _ _ hne)
  have h2 : cnt n (upd p i true) ≤ cnt n q := cnt_mono fun j hj hh => by
    by_cases e : j = i
    · subst e; exact hq
    · rw [upd_other _ _ e] at hh; exact h j hj hh
  omega
theorem meas_le (P : Par) (s : MS) : meas P s ≤ 2 * P.n := by unfold meas; omega
theorem round_meas {P : Par} {s a : MS} (h : Starts P (arrAll P (endAll s)) a) : meas P a ≤ meas P s ∧ (Event P s s.now → meas P a < meas P s) := by
  obtain ⟨_, h2, h3⟩ := starts_keep h
  have he : a.ended = fun i => s.ended i || (s.started i && s.en i == s.now) := h3
  have ha : a.arrived = fun i => s.arrived i || (decide (i < P.n) && decide (P.arr i ≤ s.now)) := h2
  have m1 : cnt P.n s.ended ≤ cnt P.n a.ended := cnt_mono fun j hj hh => by rw [he]; simp [hh]
  have m2 : cnt P.n s.arrived ≤ cnt P.n a.arrived := cnt_mono fun j hj hh => by rw [ha]; simp [hh]
  have l1 := cnt_le P.n a.ended
  have l2 := cnt_le P.n a.arrived
  refine ⟨by unfold meas; omega, fun hev => ?_⟩
  rcases hev with ⟨i, hi, h4, h5, h6⟩ | ⟨i, hi, h4, h5⟩
  · have : cnt P.n s.ended < cnt P.n a.ended := cnt_lt hi h5 (by rw [he]; simp [h4, h6]) (fun j hj hh => by rw [he]; simp [hh])
    unfold meas; omega
  · have : cnt P.n s.arrived < cnt P.n a.arrived := cnt_lt hi h4 (by rw [ha]; simp [hi, h5]) (fun j hj hh => by rw [ha]; simp [hh])
    unfold meas; omega
theorem final_all {P : Par} (hP : PB P) {s : MS} (M : MI P s) (hn : NoPick P s) (he : ∀ x, ¬ Event P s x) : ∀ i, i < P.n → s.ended i = true := by
  have h1 : ∀ i, i < P.n → s.arrived i = true := fun i hi => by
    cases h : s.arrived i with
    | true => rfl
    | false => exact (he _ (Or.inr ⟨i, hi, h, rfl⟩)).elim
  have h2 : ∀ i, i < P.n → s.started i = true → s.ended i = true := fun i hi hs => by
    cases h : s.ended i with
    | true => rfl
    | false => exact (he _ (Or.inl ⟨i, hi, hs, h, rfl⟩)).elim
  have hfr : ∀ v, 0 < fr P s v := fun v => by
    unfold fr
    rw [cnt_none (p := runs s v) (fun i hi => by
      unfold runs
      cases hs : s.started i with
      | false => rfl
      | true => rw [h2 i hi hs]; rfl)]
    have := hP.b3.1; omega
  intro i hi
  refine h2 i hi ?_
  cases hs : s.started i with
  | true => rfl
  | false =>
    exfalso
    have hk := hP.k i hi
    unfold NoPick at hn
    split at hn
    · rcases hn with hn | hn
      · rcases rmQ_rng (fr P s) (fun _ => true) P.nW with ⟨_, b⟩ | ⟨b, c, _⟩
        · have := b 0 hP.b2.1 rfl; have := hfr 0; omega
        · unfold rmA at hn; omega
      · rcases ruQ_rng (wait P s) (infl P s) P.nJ with ⟨_, b⟩ | ⟨b, c, _⟩
        · have := b _ hk.1
          have h3 : 0 < wait P s (P.job i) := cnt_pos.2 ⟨i, hi, by simp [waits, h1 i hi, hs]⟩
          omega
        · omega
    · exact hn _ hk.2.2.2.2 (hfr _) i ⟨hi, rfl, h1 i hi, hs⟩
/-- A picked task is no more behind the machine's number of starts than n. -/
theorem cntS_lt {P : Par} {s : MS} {t : Nat} (ht : t < P.n) (hs : s.started t = false) : cnt P.n s.started < P.n := by
  rcases Nat.lt_or_ge (cnt P.n s.started) P.n with h | h
  · exact h
  · have := cnt_full (Nat.le_antisymm (cnt_le _ _) h) t ht
    rw [hs] at this; cases this
/-- Ends, one by one. -/
def EndsTo (s s' : MS) : Prop := ∃ E : Nat → Bool, s' = { s with ended := E } ∧ (∀ i, s.ended i = true → E i = true) ∧ ∀ i, E i = true → s.ended i = true ∨ (s.started i = true ∧ s.en i = s.now)
theorem EndsTo.refl (s : MS) : EndsTo s s := ⟨s.ended, rfl, fun _ h => h, fun _ h => Or.inl h⟩
theorem EndsTo.step {s s' : MS} (h : EndsTo s s') {i : Nat} (h1 : s'.started i = true) (h2 : s'.en i = s'.now) : EndsTo s (endOne s' i) := by
  obtain ⟨E, rfl, a, b⟩ := h
  refine ⟨upd E i true, rfl, fun j hj => ?_, fun j hj => ?_⟩
  · unfold upd; split
    · rfl
    · exact a j hj
  · by_cases e : j = i
    · subst e; exact Or.inr ⟨h1, h2⟩
    · rw [upd_other _ _ e] at hj; exact b j hj
theorem EndsTo.done {s s' : MS} (h : EndsTo s s') (hn : ∀ i, s'.started i = true → s'.ended i = false → s'.en i ≠ s'.now) : s' = endAll s := by
  obtain ⟨E, rfl, a, b⟩ := h
  have : E = fun i => s.ended i || (s.started i && s.en i == s.now) := by
    funext i
    cases hE : E i with
    | true =>
      rcases b i hE with h | ⟨h1, h2⟩
      · simp [h]
      · simp [h1, h2]
    | false =>
      have h1 : s.ended i = false := by
        cases h : s.ended i with
        | false => rfl
        | true => rw [a i h] at hE; cases hE
      cases h2 : s.started i with
      | false => simp [h1]
      | true =>
        have := hn i h2 hE
        simp [h1]
        exact this
  unfold endAll
  rw [this]
end Go.Proofs.Ybulkdpsg

/- S5830C: replay: its phases: plain. -/
import Derived.Test.YbulkdpsgX1
namespace Go.Proofs.Ybulkdpsg
open Go Go.RowKit Go.Sort Go.Proofs Go.Lib
set_option linter.unusedVariables false
set_option linter.unusedSimpArgs false

/-- What stands in a phase. -/
def PhR (PL : (Nat → Nat) → World → MS → Prop) (base bt bru bs : Nat) (A : Par) (d : Array Tk) (ρ : Nat → Nat) (bw : Nat) (own : Nat → Nat) (w wr : World) (a : Nat) (Φ : MS → Array En → Prop) : Prop :=
  ∃ own1 s I S vq dq, RI PL base bt bru bs A d ρ bw own1 wr s I S vq dq a ∧ Φ s dq ∧ OwnUp w own own1 ∧ FrT own (fun x => x ≠ 0) w wr
/-- The round's head. -/
structure OutΦ (A : Par) (a now g : Nat) (s : MS) : Prop where
  nw : s.now = now
  reach : ∀ z, Run A s z → Run A MS.init z
  tt1 : ∀ i, i < A.n → s.started i = true → s.ended i = false → now ≤ s.en i
  tt2 : ∀ i, a ≤ i → i < A.n → now ≤ A.arr i
  g1 : meas A s ≤ g
  g2 : Event A s s.now ∨ meas A s < g
section
variable {PL : (Nat → Nat) → World → MS → Prop} {base bt bru bs bw : Nat} {A : Par} {d : Array Tk} {ρ : Nat → Nat} {own own1 : Nat → Nat} {w wr : World} {s s' : MS} {I : Ids} {S : WSt} {vq : Value} {dq : Array En} {a a' now g : Nat}
theorem ends_done (h : EndsTo s s') (ri : RI PL base bt bru bs A d ρ bw own wr s' I S vq dq a) (hx : dq.size = 0 ∨ ∃ t, t < A.n ∧ s'.started t = true ∧ s'.ended t = false ∧ s'.en t ≠ s'.now ∧ ∀ i, i < A.n → s'.started i = true → s'.ended i = false → s'.en t ≤ s'.en i) (tt : ∀ i, i < A.n → s.started i = true → s.ended i = false → s.now ≤ s.en i) : s' = endAll s := by
  refine h.done fun i h1 h2 => ?_
  have hin : i < A.n := ri.mi.an i (ri.mi.sa i h1)
  rcases hx with hx | ⟨t, k1, k2, k3, k4, k5⟩
  · have := ri.empty hx i hin h1; rw [h2] at this; cases this
  · have hle := k5 i hin h1 h2
    obtain ⟨E, rfl, e1, e2⟩ := h
    have ht : s.ended t = false := by
      cases e : s.ended t with
      | false => rfl
      | true => have := e1 t e; rw [show E t = false from k3] at this; cases this
    have := tt t k1 k2 ht
    have k4' : s.en t ≠ s.now := k4
    have hle' : s.en t ≤ s.en i := hle
    show s.en i ≠ s.now
    omega
theorem arr_done (ri : RI PL base bt bru bs A d ρ bw own wr s' I S vq dq a') {sE : MS} (h : ∃ Ar, s' = { sE with arrived := Ar }) (h1 : ∀ i, sE.arrived i = true → i < a') (h2 : ∀ i, i < a' → sE.arrived i = true ∨ A.arr i ≤ sE.now) (h3 : ∀ i, a' ≤ i → i < A.n → sE.now < A.arr i) : s' = arrAll A sE := by
  obtain ⟨Ar, rfl⟩ := h
  have : Ar = fun i => sE.arrived i || (decide (i < A.n) && decide (A.arr i ≤ sE.now)) := by
    funext i
    have har := ri.ar i
    have han := ri.an
    change Ar i = true ↔ i < a' at har
    cases hA : Ar i with
    | true =>
      have hi := har.1 hA
      rcases h2 i hi with h | h
      · simp [h]
      · simp [h, show i < A.n by omega]
    | false =>
      have hi : ¬ i < a' := fun hh => by rw [har.2 hh] at hA; cases hA
      have e1 : sE.arrived i = false := by
        cases e : sE.arrived i with
        | false => rfl
        | true => exact absurd (h1 i e) hi
      rw [e1]
      by_cases hn : i < A.n
      · have := h3 i (by omega) hn
        simp [hn]; omega
      · simp [hn]
  unfold arrAll
  rw [this]
/-- No worker has a free slot. -/
theorem noPick_full (hPB : PB A) (ri : RI PL base bt bru bs A d ρ bw own wr s' I S vq dq a) (h : opn S.free A.nW = 0) : NoPick A s' := by
  have hz : ∀ v, v < A.nW → fr A s' v = 0 := fun v hv => by
    rw [← ri.wr.free v hv]
    by_cases e : S.free v = 0
    · exact e
    · have := (opn_pos S.free A.nW).2 ⟨v, hv, e⟩; omega
  unfold NoPick
  split
  · left
    rcases rmQ_rng (fr A s') (fun _ => true) A.nW with ⟨b, _⟩ | ⟨b, c, c1, c2, _⟩
    · exact b
    · have := hz b c1; omega
  · intro v hv hf; have := hz v hv; omega
/-- The next instant. -/
theorem out_next (hPB : PB A) (hK : PLk PL) (ri : RI PL base bt bru bs A d ρ bw own1 wr s' I S vq dq a') (O : OutΦ A a now g s) (M : MI A s) (hS : Starts A (arrAll A (endAll s)) s') (tt : ∀ i, i < A.n → s'.started i = true → s'.ended i = false → s'.now ≤ s'.en i) {x : Nat} (hx : IsNext A s' x) (tt2 : ∀ i, a' ≤ i → i < A.n → s'.now ≤ A.arr i) :
    RI PL base bt bru bs A d ρ bw own1 wr { s' with now := x } I S vq dq a' ∧ OutΦ A a' x (meas A s') { s' with now := x } ∧ meas A s' < g := by
  have hle : s'.now ≤ x := by
    rcases hx.1 with ⟨i, h1, h2, h3, h4⟩ | ⟨i, h1, h2, h3⟩
    · have := tt i h1 h2 h3; omega
    · have hge : a' ≤ i := by
        rcases Nat.lt_or_ge i a' with z | z
        · have := (ri.ar i).2 z; rw [h2] at this; cases this
        · exact z
      have := tt2 i hge h1; omega
  have hm := round_meas hS
  refine ⟨ri.later hK hle (ri.mi.next hPB hx), ⟨rfl, fun z hz => O.reach z (Run.more hS hx hz), fun i h1 h2 h3 => hx.2 _ (Or.inl ⟨i, h1, h2, h3, rfl⟩), fun i h1 h2 => hx.2 _ (Or.inr ⟨i, h2, ?_, rfl⟩), Nat.le_refl _, Or.inl ?_⟩, ?_⟩
  · cases e : s'.arrived i with
    | false => rfl
    | true => have := (ri.ar i).1 e; omega
  · have := hx.1
    exact this
  · have g1 := O.g1
    rcases O.g2 with h | h
    · have := hm.2 h; omega
    · omega
theorem next_arr (ri : RI PL base bt bru bs A d ρ bw own1 wr s' I S vq dq a') (hsort : ∀ i j, i ≤ j → j < A.n → A.arr i ≤ A.arr j) (ha : a' < A.n) (hq : dq.size = 0) : IsNext A s' (A.arr a') := by
  refine ⟨Or.inr ⟨a', ha, ?_, rfl⟩, fun y hy => ?_⟩
  · cases e : s'.arrived a' with
    | false => rfl
    | true => have := (ri.ar a').1 e; omega
  · rcases hy with ⟨i, h1, h2, h3, h4⟩ | ⟨i, h1, h2, h3⟩
    · have := ri.empty hq i h1 h2; rw [h3] at this; cases this
    · have hge : a' ≤ i := by
        rcases Nat.lt_or_ge i a' with z | z
        · have := (ri.ar i).2 z; rw [h2] at this; cases this
        · exact z
      have := hsort a' i hge h1; omega
theorem next_end (ri : RI PL base bt bru bs A d ρ bw own1 wr s' I S vq dq a') (ha : a' = A.n) {t : Nat} (h1 : t < A.n) (h2 : s'.started t = true) (h3 : s'.ended t = false) (h4 : ∀ i, i < A.n → s'.started i = true → s'.ended i = false → s'.en t ≤ s'.en i) : IsNext A s' (s'.en t) := by
  refine ⟨Or.inl ⟨t, h1, h2, h3, rfl⟩, fun y hy => ?_⟩
  rcases hy with ⟨i, k1, k2, k3, k4⟩ | ⟨i, k1, k2, k3⟩
  · have := h4 i k1 k2 k3; omega
  · have := (ri.ar i).2 (by omega); rw [k2] at this; cases this
theorem next_min (ri : RI PL base bt bru bs A d ρ bw own1 wr s' I S vq dq a') (hsort : ∀ i j, i ≤ j → j < A.n → A.arr i ≤ A.arr j) (ha : a' < A.n) {t : Nat} (h1 : t < A.n) (h2 : s'.started t = true) (h3 : s'.ended t = false) (h4 : ∀ i, i < A.n → s'.started i = true → s'.ended i = false → s'.en t ≤ s'.en i) : IsNext A s' (min (s'.en t) (A.arr a')) := by
  have hna : s'.arrived a' = false := by
    cases e : s'.arrived a' with
    | false => rfl
    | true => have := (ri.ar a').1 e; omega
  refine ⟨?_, fun y hy => ?_⟩
  · rcases Nat.le_total (s'.en t) (A.arr a') with z | z
    · rw [Nat.min_eq_left z]; exact Or.inl ⟨t, h1, h2, h3, rfl⟩
    · rw [Nat.min_eq_right z]; exact Or.inr ⟨a', ha, hna, rfl⟩
  · rcases hy with ⟨i, k1, k2, k3, k4⟩ | ⟨i, k1, k2, k3⟩
    · have := h4 i k1 k2 k3; omega
    · have hge : a' ≤ i := by
        rcases Nat.lt_or_ge i a' with z | z
        · have := (ri.ar i).2 z; rw [k2] at this; cases this
        · exact z
      have := hsort a' i hge k1; omega
theorem no_event (ri : RI PL base bt bru bs A d ρ bw own1 wr s' I S vq dq a') (ha : a' = A.n) (hq : dq.size = 0) : ∀ x, ¬ Event A s' x := fun x hx => by
  rcases hx with ⟨i, h1, h2, h3, h4⟩ | ⟨i, h1, h2, h3⟩
  · have := ri.empty hq i h1 h2; rw [h3] at this; cases this
  · have := (ri.ar i).2 (by omega); rw [h2] at this; cases this
/-- The heap's cells. -/
theorem hq_form {w : World} (h : Hq w base bs vq dq) : ∃ ad cap, vq = .slice ad dq.size cap ∧ (0 < dq.size → ∃ gg, ad = some ⟨gg, 0, none⟩ ∧ w.cell? ⟨gg, 0, none⟩ = some (.int .i64 dq[0]!.at_) ∧ w.cell? ⟨gg, 1, none⟩ = some (.int .i64 dq[0]!.tk)) := by
  by_cases hz : 0 < dq.size
  · obtain ⟨gg, cap, rfl, hbg, _⟩ := h.own.form (by omega)
    obtain ⟨hH, hg, _, hcap⟩ := own_holds h.own
    have z : (flatK encE 2 dq).size = dq.size * 2 := size_flatK _ _ _
    refine ⟨_, cap, rfl, fun _ => ⟨gg, rfl, ?_, ?_⟩⟩
    · have h0 := (hH 0 (by omega)).1
      rw [get_flatK encE 2 dq _ (by omega)] at h0
      exact h0
    · have h0 := (hH 1 (by omega)).1
      rw [get_flatK encE 2 dq _ (by omega)] at h0
      exact h0
  · rcases h.own.2 with ⟨h1, _⟩ | ⟨gg, cap, cur, rfl, _⟩
    · exact ⟨none, 0, by rw [h1]; simp; omega, fun hh => absurd hh hz⟩
    · exact ⟨_, cap, rfl, fun hh => absurd hh hz⟩
end
end Go.Proofs.Ybulkdpsg

/- S5830C: the placements as the machine sees them: plain laws. -/
import Derived.Test.YbulkdpsgT4
namespace Go.Proofs.Ybulkdpsg
open Go Go.RowKit Go.Sort Go.Proofs Go.Lib
set_option linter.unusedVariables false
set_option linter.unusedSimpArgs false

theorem roomL_best (free : Nat → Nat) : ∀ (l : List Nat) (b0 : Int), (b0 = -1 ∨ ∃ b : Nat, b0 = (b : Int) ∧ 0 < free b) → ((l.foldl (updB free) b0 = -1 ∧ b0 = -1 ∧ ∀ v ∈ l, free v = 0) ∨ ∃ b : Nat, l.foldl (updB free) b0 = (b : Int) ∧ 0 < free b ∧ (b ∈ l ∨ b0 = (b : Int)) ∧ (∀ v ∈ l, free v ≤ free b ∧ (free v = free b → b ≤ v)) ∧ ∀ c : Nat, b0 = (c : Int) → free c ≤ free b ∧ (free c = free b → b ≤ c))
  | [], b0, h => by
    rcases h with rfl | ⟨b, rfl, hb⟩
    · exact Or.inl ⟨rfl, rfl, by simp⟩
    · exact Or.inr ⟨b, rfl, hb, Or.inr rfl, by simp, fun c hc => (show b = c by omega) ▸ ⟨Nat.le_refl _, fun _ => Nat.le_refl _⟩⟩
  | v :: l, b0, h => by
    have hu : updB free b0 v = -1 ∨ ∃ b : Nat, updB free b0 v = (b : Int) ∧ 0 < free b := by
      unfold updB
      split
      · rename_i hh; unfold betB at hh; exact Or.inr ⟨v, rfl, (of_decide_eq_true hh).1⟩
      · exact h
    rcases roomL_best free l (updB free b0 v) hu with ⟨h1, h2, h3⟩ | ⟨b, h1, h2, h3, h4, h5⟩
    · left
      have hb0 : b0 = -1 := by
        unfold updB at h2
        split at h2
        · omega
        · exact h2
      subst hb0
      refine ⟨h1, rfl, fun u hu => ?_⟩
      rcases List.mem_cons.1 hu with rfl | hu
      · unfold updB betB at h2
        by_cases z : free u = 0
        · exact z
        · rw [if_pos (by simp; omega)] at h2; omega
      · exact h3 u hu
    · right
      have hv : free v ≤ free b ∧ (free v = free b → b ≤ v) := by
        by_cases hb : betB free b0 v = true
        · have : updB free b0 v = (v : Int) := by unfold updB; rw [if_pos hb]
          exact h5 v this
        · have hupd : updB free b0 v = b0 := by unfold updB; rw [if_neg hb]
          rw [hupd] at h5
          rcases h with rfl | ⟨c, rfl, hc⟩
          · have : free v = 0 := by
              by_cases z : free v = 0
              · exact z
              · exfalso; apply hb; unfold betB; simp; omega
            exact ⟨by omega, fun e => by omega⟩
          · have hc5 := h5 c rfl
            have hnb : ¬ (0 < free v ∧ ((c : Int) < 0 ∨ free (c : Int).toNat < free v ∨ (free v = free (c : Int).toNat ∧ (v : Int) < (c : Int)))) := fun hh => hb (by unfold betB; exact decide_eq_true hh)
            simp only [Int.toNat_natCast] at hnb
            refine ⟨by omega, fun e => ?_⟩
            by_cases z : free v = 0
            · omega
            · have := hc5.2; omega
      refine ⟨b, h1, h2, ?_, fun u hu => ?_, fun c hc => ?_⟩
      · rcases h3 with h3 | h3
        · exact Or.inl (List.mem_cons_of_mem _ h3)
        · unfold updB at h3
          split at h3
          · exact Or.inl (by have : b = v := by omega
                             subst this; simp)
          · exact Or.inr h3
      · rcases List.mem_cons.1 hu with rfl | hu
        · exact hv
        · exact h4 u hu
      · subst hc
        by_cases hb : betB free (c : Int) v = true
        · unfold betB at hb
          have hh := of_decide_eq_true hb
          simp only [Int.toNat_natCast] at hh
          refine ⟨by omega, fun e => ?_⟩
          have := hv.2
          omega
        · have hupd : updB free (c : Int) v = (c : Int) := by unfold updB; rw [if_neg hb]
          exact h5 c hupd
theorem roomL_eq {f1 f2 : Nat → Nat} {ok : Nat → Bool} {nW : Nat} {l : List Nat} (hl : ∀ v, v ∈ l ↔ v < nW ∧ ok v = true) (hf : ∀ v, v < nW → f1 v = f2 v) : roomL f1 l = rmQ f2 ok nW := by
  unfold roomL
  rcases roomL_best f1 l (-1) (Or.inl rfl) with ⟨h1, _, h3⟩ | ⟨b, h1, h2, h3, h4, _⟩ <;> rcases rmQ_rng f2 ok nW with ⟨a1, a2⟩ | ⟨c, a1, a2, a3, a4, a5, a6⟩
  · rw [h1, a1]
  · have := h3 c ((hl c).2 ⟨a2, a4⟩); rw [hf c a2] at this; omega
  · have hb : b ∈ l := by rcases h3 with h | h
                          · exact h
                          · omega
    have hb' := (hl b).1 hb
    have := a2 b hb'.1 hb'.2; rw [← hf b hb'.1] at this; omega
  · have hb : b ∈ l := by rcases h3 with h | h
                          · exact h
                          · omega
    have hb' := (hl b).1 hb
    have x1 := h4 c ((hl c).2 ⟨a2, a4⟩)
    have x2 := a5 b hb'.1 hb'.2
    have y1 := hf b hb'.1
    have y2 := hf c a2
    have e : b = c := by
      rcases Nat.lt_trichotomy b c with z | z | z
      · have := a6 b z hb'.2; omega
      · exact z
      · have := x1.2; omega
    rw [h1, a1, e]
theorem memQ_eq (sz : Nat) (m : List Nat) (k : Nat) : memT sz m k = memQ sz m k := rfl
theorem ruQ_eq (a b : Nat → Nat) (n : Nat) : ruL a b n = ruQ a b n := rfl
/-- How the workers stand to the machine. -/
structure WRel (A : Par) (s : MS) (S : WSt) : Prop where
  free : ∀ v, v < A.nW → S.free v = fr A s v
  mem : ∀ v, v < A.nW → (S.els v).map Prod.snd = s.mem v
theorem rm_held {A : Par} {s : MS} {S : WSt} (h : WRel A s S) (k : Nat) : HeldK A.nW S k ↔ rm A s k ≠ -1 := by
  unfold HeldK rm
  rcases rmQ_rng (fr A s) (fun v => decide (k ∈ s.mem v)) A.nW with ⟨a1, a2⟩ | ⟨c, a1, a2, a3, a4, a5, a6⟩
  · rw [a1]
    constructor
    · rintro ⟨v, h1, h2, h3⟩
      rw [h.mem v h1] at h3
      have := a2 v h1 (decide_eq_true h3)
      rw [h.free v h1] at h2; omega
    · intro hh; exact absurd rfl hh
  · rw [a1]
    exact ⟨fun _ => by omega, fun _ => ⟨c, a2, by rw [h.free c a2]; exact a3, by rw [h.mem c a2]; exact of_decide_eq_true a4⟩⟩
theorem room_rm {own : Nat → Nat} {w : World} {base sz lm : Nat} {pen : Int} {I : Ids} {A : Par} {s : MS} {S : WSt} (hw : WS own w base A.nW A.nK sz lm pen I S) (h : WRel A s S) {k : Nat} (hk : k < A.nK) : roomL S.free (S.hold k) = rm A s k := by
  unfold rm
  refine roomL_eq (fun v => ?_) (fun v hv => h.free v hv)
  rw [(hw.hs k hk).2 v]
  constructor
  · rintro ⟨h1, h2⟩; exact ⟨h1, decide_eq_true (by rw [← h.mem v h1]; exact h2)⟩
  · rintro ⟨h1, h2⟩; exact ⟨h1, by rw [h.mem v h1]; exact of_decide_eq_true h2⟩
theorem room_rmA {A : Par} {s : MS} {S : WSt} (h : WRel A s S) : roomL S.free (List.range A.nW) = rmA A s :=
  roomL_eq (fun v => by simp) (fun v hv => h.free v hv)
/-- Counts. -/
theorem cnt_lt_n {n i : Nat} {p : Nat → Bool} (hi : i < n) (h : p i = false) : cnt n p < n := by
  have := cnt_lt (p := p) (q := fun _ => true) hi h rfl (fun _ _ _ => rfl)
  rwa [cnt_all (p := fun _ => true) (fun _ _ => rfl)] at this
theorem wait_arr {A : Par} {s : MS} {t : Nat} (ht : t < A.n) (ha : s.arrived t = false) (hs : s.started t = false) (j : Nat) : wait A (arrOne s t) j = wait A s j + (if A.job t = j then 1 else 0) := by
  unfold wait
  by_cases e : A.job t = j
  · rw [if_pos e]
    exact cnt_add A.n ht (by simp [waits, ha]) (by simp [waits, arrOne, upd, hs, e]) (fun i _ hne => by simp [waits, arrOne, upd, hne])
  · rw [if_neg e]
    exact cnt_congr fun i hi => by
      by_cases e2 : i = t
      · subst e2; have hb : (A.job i == j) = false := beq_false_of_ne e
        simp [waits, hb]
      · simp [waits, arrOne, upd, e2]
theorem wait_start {A : Par} {s : MS} {t v : Nat} (ht : t < A.n) (ha : s.arrived t = true) (hs : s.started t = false) (j : Nat) : wait A s j = wait A (start A s t v) j + (if A.job t = j then 1 else 0) := by
  unfold wait
  by_cases e : A.job t = j
  · rw [if_pos e]
    exact cnt_add A.n ht (by simp [waits, start, upd]) (by simp [waits, ha, hs, e]) (fun i _ hne => by simp [waits, start, upd, hne])
  · rw [if_neg e]
    exact cnt_congr fun i hi => by
      by_cases e2 : i = t
      · subst e2; have hb : (A.job i == j) = false := beq_false_of_ne e
        simp [waits, hb]
      · simp [waits, start, upd, e2]
theorem infl_start {A : Par} {s : MS} {t v : Nat} (ht : t < A.n) (hs : s.started t = false) (he : s.ended t = false) (j : Nat) : infl A (start A s t v) j = infl A s j + (if A.job t = j then 1 else 0) := by
  unfold infl
  by_cases e : A.job t = j
  · rw [if_pos e]
    exact cnt_add A.n ht (by simp [flies, hs]) (by simp [flies, start, upd, he, e]) (fun i _ hne => by simp [flies, start, upd, hne])
  · rw [if_neg e]
    exact cnt_congr fun i hi => by
      by_cases e2 : i = t
      · subst e2; have hb : (A.job i == j) = false := beq_false_of_ne e
        simp [flies, hb]
      · simp [flies, start, upd, e2]
theorem infl_end {A : Par} {s : MS} {t : Nat} (ht : t < A.n) (hs : s.started t = true) (he : s.ended t = false) (j : Nat) : infl A s j = infl A (endOne s t) j + (if A.job t = j then 1 else 0) := by
  unfold infl
  by_cases e : A.job t = j
  · rw [if_pos e]
    exact cnt_add A.n ht (by simp [flies, endOne, upd]) (by simp [flies, hs, he, e]) (fun i _ hne => by simp [flies, endOne, upd, hne])
  · rw [if_neg e]
    exact cnt_congr fun i hi => by
      by_cases e2 : i = t
      · subst e2; have hb : (A.job i == j) = false := beq_false_of_ne e
        simp [flies, hb]
      · simp [flies, endOne, upd, e2]
theorem runs_end {A : Par} {s : MS} {t : Nat} (ht : t < A.n) (hs : s.started t = true) (he : s.ended t = false) (v : Nat) : cnt A.n (runs s v) = cnt A.n (runs (endOne s t) v) + (if s.wk t = v then 1 else 0) := by
  by_cases e : s.wk t = v
  · rw [if_pos e]
    exact cnt_add A.n ht (by simp [runs, endOne, upd]) (by simp [runs, hs, he, e]) (fun i _ hne => by simp [runs, endOne, upd, hne])
  · rw [if_neg e]
    exact cnt_congr fun i hi => by
      by_cases e2 : i = t
      · subst e2; have hb : (s.wk i == v) = false := beq_false_of_ne e
        simp [runs, endOne, hb]
      · simp [runs, endOne, upd, e2]
theorem runs_st {A : Par} {s : MS} {t v : Nat} (ht : t < A.n) (hs : s.started t = false) (he : s.ended t = false) (u : Nat) : cnt A.n (runs (start A s t v) u) = cnt A.n (runs s u) + (if v = u then 1 else 0) := by
  by_cases e : v = u
  · rw [if_pos e]
    exact cnt_add A.n ht (by simp [runs, hs]) (by simp [runs, start, upd, he, e]) (fun i _ hne => by simp [runs, start, upd, hne])
  · rw [if_neg e]
    exact cnt_congr fun i hi => by
      by_cases e2 : i = t
      · subst e2; simp [runs, start, upd, he, hs, e]
      · simp [runs, start, upd, e2]
end Go.Proofs.Ybulkdpsg

/- S5830C: the machine over the tasks in order of arrival and the machine over the rows go the same way. -/
import Derived.Test.YbulkdpsgQ1
namespace Go.Proofs.Ybulkdpsg
set_option linter.unusedVariables false
set_option linter.unusedSimpArgs false

structure Iso (A B : Par) (ρ κ : Nat → Nat) : Prop where
  n : B.n = A.n
  nJ : B.nJ = A.nJ
  nW : B.nW = A.nW
  nS : B.nS = A.nS
  pd : B.pd = A.pd
  sticky : B.sticky = A.sticky
  perm : ((List.range A.n).map ρ).Perm (List.range A.n)
  job : ∀ t, t < A.n → B.job (ρ t) = A.job t
  dur : ∀ t, t < A.n → B.dur (ρ t) = A.dur t
  arr : ∀ t, t < A.n → B.arr (ρ t) = A.arr t
  key : ∀ t, t < A.n → B.key (ρ t) = κ (A.key t)
  own : ∀ k, k < A.nK → B.own (κ k) = A.own k
  inj : ∀ k k', k < A.nK → k' < A.nK → κ k = κ k' → k = k'
  sz : A.sz = min B.sz A.nK
  lt : ∀ t t', t < A.n → t' < A.n → (B.lt (ρ t) (ρ t') ↔ A.lt t t')
  tot : ∀ t t', t < A.n → t' < A.n → t ≠ t' → A.lt t t' ∨ A.lt t' t
structure Rel (A B : Par) (ρ κ : Nat → Nat) (s s' : MS) : Prop where
  now : s'.now = s.now
  arrived : ∀ t, t < A.n → s'.arrived (ρ t) = s.arrived t
  started : ∀ t, t < A.n → s'.started (ρ t) = s.started t
  ended : ∀ t, t < A.n → s'.ended (ρ t) = s.ended t
  cold : ∀ t, t < A.n → s'.cold (ρ t) = s.cold t
  st : ∀ t, t < A.n → s'.st (ρ t) = s.st t
  en : ∀ t, t < A.n → s'.en (ρ t) = s.en t
  wk : ∀ t, t < A.n → s'.wk (ρ t) = s.wk t
  mem : ∀ v, s'.mem v = (s.mem v).map κ
section
variable {A B : Par} {ρ κ : Nat → Nat}
theorem Iso.lt_n (I : Iso A B ρ κ) {t : Nat} (h : t < A.n) : ρ t < A.n := by
  have := I.perm.mem_iff.1 (List.mem_map.2 ⟨t, List.mem_range.2 h, rfl⟩)
  exact List.mem_range.1 this
theorem Iso.surj (I : Iso A B ρ κ) {i : Nat} (h : i < A.n) : ∃ t, t < A.n ∧ ρ t = i := by
  obtain ⟨t, h1, h2⟩ := List.mem_map.1 (I.perm.mem_iff.2 (List.mem_range.2 h))
  exact ⟨t, List.mem_range.1 h1, h2⟩
theorem inj_of_nodup_map {f : Nat → Nat} {l : List Nat} (h : (l.map f).Nodup) {a b : Nat} (ha : a ∈ l) (hb : b ∈ l) (e : f a = f b) : a = b := by
  induction l with
  | nil => simp at ha
  | cons x r ih =>
    simp only [List.map_cons, List.nodup_cons] at h
    rcases List.mem_cons.1 ha with e1 | h1 <;> rcases List.mem_cons.1 hb with e2 | h2
    · rw [e1, e2]
    · exact absurd (List.mem_map.2 ⟨b, h2, by rw [← e, e1]⟩) h.1
    · exact absurd (List.mem_map.2 ⟨a, h1, by rw [e, e2]⟩) h.1
    · exact ih h.2 h1 h2
theorem Iso.ρinj (I : Iso A B ρ κ) {t t' : Nat} (h : t < A.n) (h' : t' < A.n) (e : ρ t = ρ t') : t = t' :=
  inj_of_nodup_map (I.perm.nodup_iff.2 List.nodup_range) (List.mem_range.2 h) (List.mem_range.2 h') e
theorem Iso.cnt (I : Iso A B ρ κ) {p q : Nat → Bool} (h : ∀ t, t < A.n → q (ρ t) = p t) : cnt B.n q = cnt A.n p := by
  rw [I.n]
  unfold Ybulkdpsg.cnt
  rw [← I.perm.countP_eq, List.countP_map]
  exact List.countP_congr fun t ht => by simp [h t (List.mem_range.1 ht)]
variable {s s' : MS}
theorem Rel.fr (I : Iso A B ρ κ) (R : Rel A B ρ κ s s') (v : Nat) : fr B s' v = fr A s v := by
  unfold Ybulkdpsg.fr
  rw [I.nS, I.cnt (p := runs s v) (fun t ht => by unfold runs; rw [R.started t ht, R.ended t ht, R.wk t ht])]
theorem Rel.wait (I : Iso A B ρ κ) (R : Rel A B ρ κ s s') (j : Nat) : wait B s' j = wait A s j :=
  I.cnt (fun t ht => by unfold waits; rw [R.arrived t ht, R.started t ht, I.job t ht])
theorem Rel.infl (I : Iso A B ρ κ) (R : Rel A B ρ κ s s') (j : Nat) : infl B s' j = infl A s j :=
  I.cnt (fun t ht => by unfold flies; rw [R.started t ht, R.ended t ht, I.job t ht])
theorem Rel.rmA (I : Iso A B ρ κ) (R : Rel A B ρ κ s s') : rmA B s' = rmA A s := by
  unfold Ybulkdpsg.rmA
  rw [I.nW]
  exact rmQ_congr fun v hv => ⟨R.fr I v, rfl⟩
theorem mem_map_κ (I : Iso A B ρ κ) {m : List Nat} (hm : ∀ x ∈ m, x < A.nK) {k : Nat} (hk : k < A.nK) : κ k ∈ m.map κ ↔ k ∈ m := by
  constructor
  · intro h
    obtain ⟨x, h1, h2⟩ := List.mem_map.1 h
    rw [← I.inj x k (hm x h1) hk h2]; exact h1
  · exact fun h => List.mem_map.2 ⟨k, h, rfl⟩
theorem Rel.rm (I : Iso A B ρ κ) (R : Rel A B ρ κ s s') (M : MI A s) {k : Nat} (hk : k < A.nK) : rm B s' (κ k) = rm A s k := by
  unfold Ybulkdpsg.rm
  rw [I.nW]
  refine rmQ_congr fun v hv => ⟨R.fr I v, ?_⟩
  rw [R.mem v]
  exact decide_eq_decide.2 (mem_map_κ I (M.ml v).2.2 hk)
theorem Rel.ru (I : Iso A B ρ κ) (R : Rel A B ρ κ s s') : ruQ (Ybulkdpsg.wait B s') (Ybulkdpsg.infl B s') B.nJ = ruQ (Ybulkdpsg.wait A s) (Ybulkdpsg.infl A s) A.nJ := by
  rw [I.nJ]
  exact ruQ_congr _ fun j hj => ⟨R.wait I j, R.infl I j⟩
theorem Rel.W (I : Iso A B ρ κ) (R : Rel A B ρ κ s s') {j t : Nat} (ht : t < A.n) : W B s' j (ρ t) ↔ W A s j t := by
  unfold Ybulkdpsg.W
  rw [I.n, I.job t ht, R.arrived t ht, R.started t ht]
  exact ⟨fun h => ⟨ht, h.2⟩, fun h => ⟨I.lt_n ht, h.2⟩⟩
theorem Rel.WP (I : Iso A B ρ κ) (hP : PB A) (R : Rel A B ρ κ s s') {v t : Nat} (ht : t < A.n) : WP B s' v (ρ t) ↔ WP A s v t := by
  unfold Ybulkdpsg.WP
  rw [I.n, I.key t ht, I.own _ (hP.k t ht).2.1, R.arrived t ht, R.started t ht]
  exact ⟨fun h => ⟨ht, h.2⟩, fun h => ⟨I.lt_n ht, h.2⟩⟩
theorem Rel.noPick (I : Iso A B ρ κ) (hP : PB A) (R : Rel A B ρ κ s s') : NoPick B s' ↔ NoPick A s := by
  unfold NoPick
  rw [I.sticky]
  split
  · rw [R.rmA I, R.ru I]
  · rw [I.nW]
    constructor
    · intro h v hv hf t hw
      exact h v hv (by rw [R.fr I v]; exact hf) (ρ t) ((R.WP I hP hw.1).2 hw)
    · intro h v hv hf t hw
      obtain ⟨u, hu, rfl⟩ := I.surj (show t < A.n by rw [← I.n]; exact hw.1)
      exact h v hv (by rw [← R.fr I v]; exact hf) u ((R.WP I hP hu).1 hw)
/-- Both sides pick the same. -/
theorem Rel.pick (I : Iso A B ρ κ) (hP : PB A) (R : Rel A B ρ κ s s') (M : MI A s) {t v t' v' : Nat} (h : Pick A s t v) (h' : Pick B s' t' v') : t' = ρ t ∧ v' = v := by
  unfold Pick at h h'
  rw [I.sticky] at h'
  split at h
  · rename_i hs
    rw [if_pos hs] at h'
    obtain ⟨j, hj, hw, hh⟩ := h
    obtain ⟨j', hj', hw', hh'⟩ := h'
    have e1 : j' = j := by rw [R.ru I, hj] at hj'; omega
    subst e1
    obtain ⟨u, hu, rfl⟩ := I.surj (show t' < A.n by rw [← I.n]; exact hw'.1)
    have hwu := (R.W I hu).1 hw'
    have ku := (hP.k u hu).2.1
    have kt := (hP.k t hw.1).2.1
    rw [I.key u hu, R.rm I M ku, R.rmA I] at hh'
    have hall : ∀ x, Ybulkdpsg.W A s j' x → Ybulkdpsg.W B s' j' (ρ x) ∧ Ybulkdpsg.rm B s' (B.key (ρ x)) = Ybulkdpsg.rm A s (A.key x) := fun x hx => ⟨(R.W I hx.1).2 hx, by rw [I.key x hx.1, R.rm I M (hP.k x hx.1).2.1]⟩
    by_cases e : u = t
    · subst e
      refine ⟨rfl, ?_⟩
      rcases hh with ⟨a1, a2⟩ | ⟨a1, a2, a3⟩ <;> rcases hh' with ⟨b1, b2⟩ | ⟨b1, b2, b3⟩
      · omega
      · have := b1 _ (hall u hw).1; rw [(hall u hw).2] at this; omega
      · have := a1 u hw; omega
      · omega
    · exfalso
      rcases I.tot u t hu hw.1 e with hl | hl
      · rcases hh with ⟨a1, a2⟩ | ⟨a1, a2, a3⟩
        · have x1 := a2 u hwu hl
          rcases hh' with ⟨b1, b2⟩ | ⟨b1, b2, b3⟩
          · omega
          · have := b1 _ (hall t hw).1; rw [(hall t hw).2] at this; omega
        · exact a2 u hwu hl
      · rcases hh' with ⟨b1, b2⟩ | ⟨b1, b2, b3⟩
        · have x1 := b2 _ (hall t hw).1 ((I.lt t u hw.1 hu).2 hl)
          rw [(hall t hw).2] at x1
          rcases hh with ⟨a1, a2⟩ | ⟨a1, a2, a3⟩
          · omega
          · have := a1 u hwu; omega
        · exact b2 _ (hall t hw).1 ((I.lt t u hw.1 hu).2 hl)
  · rename_i hs
    rw [if_neg hs] at h'
    obtain ⟨a1, a2, a3, a4, a5⟩ := h
    obtain ⟨b1, b2, b3, b4, b5⟩ := h'
    obtain ⟨u, hu, rfl⟩ := I.surj (show t' < A.n by rw [← I.n]; exact b3.1)
    have hwu := (R.WP I hP hu).1 b3
    have ev : v' = v := by
      rcases Nat.lt_trichotomy v' v with z | z | z
      · exact absurd hwu (a5 v' z (by rw [← R.fr I v']; exact b2) u)
      · exact z
      · exact absurd ((R.WP I hP a3.1).2 a3) (b5 v z (by rw [R.fr I v]; exact a2) (ρ t))
    subst ev
    refine ⟨?_, rfl⟩
    by_cases e : u = t
    · rw [e]
    · exfalso
      rcases I.tot u t hu a3.1 e with hl | hl
      · exact a4 u hwu hl
      · exact b4 _ ((R.WP I hP a3.1).2 a3) ((I.lt t u a3.1 hu).2 hl)
theorem map_erase_κ (I : Iso A B ρ κ) {k : Nat} (hk : k < A.nK) : ∀ {m : List Nat}, (∀ x ∈ m, x < A.nK) → (m.map κ).erase (κ k) = (m.erase k).map κ
  | [], _ => rfl
  | x :: r, hm => by
    have ih := map_erase_κ I hk (m := r) (fun y hy => hm y (List.mem_cons_of_mem _ hy))
    by_cases e : x = k
    · subst e; simp
    · have : κ x ≠ κ k := fun h => e (I.inj x k (hm x (by simp)) hk h)
      simp only [List.map_cons]
      rw [List.erase_cons_tail (by simpa using this), List.erase_cons_tail (by simpa using e), ih]; rfl
theorem nodup_len : ∀ {N : Nat} (l : List Nat), l.Nodup → (∀ x ∈ l, x < N) → l.length ≤ N
  | 0, l, _, h => by
    cases l with
    | nil => simp
    | cons x r => exact absurd (h x (by simp)) (by omega)
  | N + 1, l, hn, h => by
    have h1 := nodup_len (N := N) (l.erase N) (hn.erase N) (fun x hx => by
      have := h x (List.mem_of_mem_erase hx)
      have hne : x ≠ N := (List.Nodup.mem_erase_iff hn).1 hx |>.1
      omega)
    have h2 := List.length_erase (a := N) (l := l)
    split at h2 <;> omega
theorem memQ_κ (I : Iso A B ρ κ) {k : Nat} (hk : k < A.nK) {m : List Nat} (hm : ∀ x ∈ m, x < A.nK) (hn : m.Nodup) : memQ B.sz (m.map κ) (κ k) = (memQ A.sz m k).map κ := by
  unfold memQ
  by_cases e : k ∈ m
  · rw [if_pos ((mem_map_κ I hm hk).2 e), if_pos e, map_erase_κ I hk hm]; rfl
  · rw [if_neg (fun h => e ((mem_map_κ I hm hk).1 h)), if_neg e, I.sz]
    by_cases z : B.sz = 0
    · rw [if_pos z, if_pos (by omega)]
    · rw [if_neg z, if_neg (by omega), List.map_take, List.map_cons]
      have hl := nodup_len (N := A.nK) (k :: m) (List.nodup_cons.2 ⟨e, hn⟩) (fun x hx => by
        rcases List.mem_cons.1 hx with rfl | hx
        · exact hk
        · exact hm x hx)
      have hlen : (κ k :: m.map κ).length = (k :: m).length := by simp
      by_cases c : B.sz ≤ A.nK
      · rw [Nat.min_eq_left c]
      · rw [Nat.min_eq_right (by omega), List.take_of_length_le (by omega), List.take_of_length_le (by omega)]
theorem Rel.start (I : Iso A B ρ κ) (hP : PB A) (R : Rel A B ρ κ s s') (M : MI A s) {t v : Nat} (ht : t < A.n) : Rel A B ρ κ (start A s t v) (start B s' (ρ t) v) := by
  have hk := (hP.k t ht).2.1
  have hc : isCold B s' (ρ t) v = isCold A s t v := by
    unfold isCold
    rw [I.key t ht, R.mem v]
    exact decide_eq_decide.2 (not_congr (mem_map_κ I (M.ml v).2.2 hk))
  have he : enOf B s' (ρ t) v = enOf A s t v := by
    unfold enOf; rw [hc, R.now, I.dur t ht, I.pd]
  have hup : ∀ {α : Type} (f g : Nat → α) (x : α), (∀ u, u < A.n → g (ρ u) = f u) → ∀ u, u < A.n → upd g (ρ t) x (ρ u) = upd f t x u := fun f g x h u hu => by
    unfold upd
    by_cases e : u = t
    · subst e; simp
    · rw [if_neg e, if_neg (fun h => e (I.ρinj hu ht h)), h u hu]
  refine ⟨R.now, R.arrived, hup _ _ _ R.started, R.ended, ?_, ?_, ?_, hup _ _ _ R.wk, fun u => ?_⟩
  · show ∀ u, u < A.n → upd s'.cold (ρ t) (isCold B s' (ρ t) v) (ρ u) = upd s.cold t (isCold A s t v) u
    rw [hc]; exact hup _ _ _ R.cold
  · show ∀ u, u < A.n → upd s'.st (ρ t) s'.now (ρ u) = upd s.st t s.now u
    rw [R.now]; exact hup _ _ _ R.st
  · show ∀ u, u < A.n → upd s'.en (ρ t) (enOf B s' (ρ t) v) (ρ u) = upd s.en t (enOf A s t v) u
    rw [he]; exact hup _ _ _ R.en
  · show upd s'.mem v (memQ B.sz (s'.mem v) (B.key (ρ t))) u = (upd s.mem v (memQ A.sz (s.mem v) (A.key t)) u).map κ
    by_cases e : u = v
    · subst e; rw [upd_same, upd_same, R.mem u, I.key t ht]; exact memQ_κ I hk (M.ml u).2.2 (M.ml u).2.1
    · rw [upd_other _ _ e, upd_other _ _ e]; exact R.mem u
theorem pick_facts {P : Par} {s : MS} {t v : Nat} (h : Pick P s t v) : t < P.n ∧ s.arrived t = true ∧ s.started t = false ∧ v < P.nW ∧ 0 < fr P s v := by
  unfold Pick at h
  split at h
  · obtain ⟨j, _, hw, hh⟩ := h
    refine ⟨hw.1, hw.2.2.1, hw.2.2.2, ?_⟩
    rcases hh with ⟨a, _⟩ | ⟨_, _, a⟩
    · rcases rmQ_rng (fr P s) (fun v => decide (P.key t ∈ s.mem v)) P.nW with ⟨b, _⟩ | ⟨b, c, d, e, _⟩
      · unfold rm at a; omega
      · unfold rm at a; have : v = b := by omega
        subst this; exact ⟨d, e⟩
    · rcases rmQ_rng (fr P s) (fun _ => true) P.nW with ⟨b, _⟩ | ⟨b, c, d, e, _⟩
      · unfold rmA at a; omega
      · unfold rmA at a; have : v = b := by omega
        subst this; exact ⟨d, e⟩
  · exact ⟨h.2.2.1.1, h.2.2.1.2.2.1, h.2.2.1.2.2.2, h.1, h.2.1⟩
theorem pick_not {P : Par} {s : MS} {t v : Nat} (h : Pick P s t v) (h' : NoPick P s) : False := by
  have hf := pick_facts h
  unfold Pick at h
  unfold NoPick at h'
  split at h
  · rename_i hs
    rw [if_pos hs] at h'
    obtain ⟨j, hj, _⟩ := h
    rcases h' with h' | h'
    · rcases rmQ_rng (fr P s) (fun _ => true) P.nW with ⟨b, c⟩ | ⟨b, c, _⟩
      · have := c v hf.2.2.2.1 rfl; omega
      · unfold rmA at h'; omega
    · omega
  · rename_i hs
    rw [if_neg hs] at h'
    exact h' v h.1 h.2.1 t h.2.2.1
theorem Rel.starts (I : Iso A B ρ κ) (hP : PB A) {a : MS} (hA : Starts A s a) : MI A s → ∀ {s' b : MS}, Rel A B ρ κ s s' → Starts B s' b → Rel A B ρ κ a b ∧ MI A a := by
  induction hA with
  | stop h =>
    intro M s' b R hB
    cases hB with
    | stop _ => exact ⟨R, M⟩
    | go h2 _ => exact (pick_not h2 ((R.noPick I hP).2 h)).elim
  | go h _ ih =>
    intro M s' b R hB
    have hf := pick_facts h
    cases hB with
    | stop h2 => exact (pick_not h ((R.noPick I hP).1 h2)).elim
    | go h2 h3 =>
      obtain ⟨rfl, rfl⟩ := R.pick I hP M h h2
      exact ih (M.start hP hf.1 hf.2.1 hf.2.2.1 hf.2.2.2.1 hf.2.2.2.2) (R.start I hP M hf.1) h3
theorem Rel.ends (I : Iso A B ρ κ) (R : Rel A B ρ κ s s') : Rel A B ρ κ (arrAll A (endAll s)) (arrAll B (endAll s')) := by
  refine ⟨R.now, fun t ht => ?_, R.started, fun t ht => ?_, R.cold, R.st, R.en, R.wk, R.mem⟩
  · show (s'.arrived (ρ t) || (decide (ρ t < B.n) && decide (B.arr (ρ t) ≤ s'.now))) = (s.arrived t || (decide (t < A.n) && decide (A.arr t ≤ s.now)))
    simp [R.arrived t ht, I.arr t ht, R.now, I.n, ht, I.lt_n ht]
  · simp only [arrAll, endAll]
    rw [R.ended t ht, R.started t ht, R.en t ht, R.now]
theorem Rel.event (I : Iso A B ρ κ) (R : Rel A B ρ κ s s') (x : Nat) : Event B s' x ↔ Event A s x := by
  unfold Event
  rw [I.n]
  constructor
  · rintro (⟨i, h1, h2, h3, h4⟩ | ⟨i, h1, h2, h3⟩)
    · obtain ⟨t, ht, rfl⟩ := I.surj h1
      exact Or.inl ⟨t, ht, by rw [← R.started t ht]; exact h2, by rw [← R.ended t ht]; exact h3, by rw [← R.en t ht]; exact h4⟩
    · obtain ⟨t, ht, rfl⟩ := I.surj h1
      exact Or.inr ⟨t, ht, by rw [← R.arrived t ht]; exact h2, by rw [← I.arr t ht]; exact h3⟩
  · rintro (⟨t, ht, h2, h3, h4⟩ | ⟨t, ht, h2, h3⟩)
    · exact Or.inl ⟨ρ t, I.lt_n ht, by rw [R.started t ht]; exact h2, by rw [R.ended t ht]; exact h3, by rw [R.en t ht]; exact h4⟩
    · exact Or.inr ⟨ρ t, I.lt_n ht, by rw [R.arrived t ht]; exact h2, by rw [I.arr t ht]; exact h3⟩
/-- Both sides end in the same. -/
theorem Rel.run (I : Iso A B ρ κ) (hP : PB A) {a : MS} (hA : Run A s a) : MI A s → ∀ {s' b : MS}, Rel A B ρ κ s s' → Run B s' b → Rel A B ρ κ a b ∧ MI A a := by
  induction hA with
  | last h1 h2 =>
    intro M s' b R hB
    cases hB with
    | last k1 k2 => exact (R.ends I).starts I hP h1 M.endAll.arrAll k1
    | more k1 k2 k3 =>
      have := (R.ends I).starts I hP h1 M.endAll.arrAll k1
      exact (h2 _ ((this.1.event I _).1 k2.1)).elim
  | @more _ _ _ x h1 h2 _ ih =>
    intro M s' b R hB
    cases hB with
    | last k1 k2 =>
      have := (R.ends I).starts I hP h1 M.endAll.arrAll k1
      exact (k2 _ ((this.1.event I _).2 h2.1)).elim
    | @more _ s1b _ y k1 k2 k3 =>
      obtain ⟨r, m⟩ := (R.ends I).starts I hP h1 M.endAll.arrAll k1
      have e1 := h2.2 _ ((r.event I _).1 k2.1)
      have e2 := k2.2 _ ((r.event I _).2 h2.1)
      have e : y = x := by omega
      subst e
      exact ih (s' := { s1b with now := y }) (m.next hP h2) ⟨rfl, r.arrived, r.started, r.ended, r.cold, r.st, r.en, r.wk, r.mem⟩ k3
end
end Go.Proofs.Ybulkdpsg

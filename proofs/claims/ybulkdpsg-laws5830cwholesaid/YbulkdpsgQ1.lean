/- S5830C: THE MACHINE that both sides go through: plain, no Go in sight. -/
namespace Go.Proofs.Ybulkdpsg
set_option linter.unusedVariables false
set_option linter.unusedSimpArgs false

def upd {α : Type} (f : Nat → α) (i : Nat) (x : α) : Nat → α := fun u => if u = i then x else f u
theorem upd_same {α : Type} (f : Nat → α) (i : Nat) (x : α) : upd f i x i = x := if_pos rfl
theorem upd_other {α : Type} (f : Nat → α) {i u : Nat} (x : α) (h : u ≠ i) : upd f i x u = f u := if_neg h
def cnt (n : Nat) (p : Nat → Bool) : Nat := (List.range n).countP p
theorem cnt_succ (n : Nat) (p : Nat → Bool) : cnt (n + 1) p = cnt n p + (if p n then 1 else 0) := by
  simp [cnt, List.range_succ, List.countP_append, List.countP_singleton]
theorem cnt_congr {n : Nat} {p q : Nat → Bool} (h : ∀ i, i < n → p i = q i) : cnt n p = cnt n q := by
  unfold cnt
  refine List.countP_congr fun i hi => ?_
  rw [h i (List.mem_range.1 hi)]
theorem cnt_le (n : Nat) (p : Nat → Bool) : cnt n p ≤ n := by
  have := List.countP_le_length (p := p) (l := List.range n)
  simpa [cnt] using this
/-- One more. -/
theorem cnt_add : ∀ (n : Nat) {p q : Nat → Bool} {i : Nat}, i < n → p i = false → q i = true → (∀ j, j < n → j ≠ i → q j = p j) → cnt n q = cnt n p + 1
  | 0, _, _, _, h, _, _, _ => by omega
  | n + 1, p, q, i, h, h1, h2, h3 => by
    rw [cnt_succ, cnt_succ]
    by_cases e : i = n
    · subst e
      rw [h1, h2, cnt_congr (q := p) (fun j hj => h3 j (by omega) (by omega))]; simp
    · have := cnt_add n (p := p) (q := q) (i := i) (by omega) h1 h2 (fun j hj hne => h3 j (by omega) hne)
      rw [this, h3 n (by omega) (fun e' => e e'.symm)]; omega
theorem cnt_pos {n : Nat} {p : Nat → Bool} : 0 < cnt n p ↔ ∃ i, i < n ∧ p i = true := by
  unfold cnt
  rw [List.countP_pos_iff]
  constructor
  · rintro ⟨i, h1, h2⟩; exact ⟨i, List.mem_range.1 h1, h2⟩
  · rintro ⟨i, h1, h2⟩; exact ⟨i, List.mem_range.2 h1, h2⟩
theorem cnt_mono {n : Nat} {p q : Nat → Bool} (h : ∀ i, i < n → p i = true → q i = true) : cnt n p ≤ cnt n q := by
  unfold cnt
  exact List.countP_mono_left (fun i hi => h i (List.mem_range.1 hi))
theorem cnt_all {n : Nat} {p : Nat → Bool} (h : ∀ i, i < n → p i = true) : cnt n p = n := by
  have := (List.countP_eq_length (p := p) (l := List.range n)).2 (fun i hi => h i (List.mem_range.1 hi))
  simpa [cnt] using this
theorem cnt_none {n : Nat} {p : Nat → Bool} (h : ∀ i, i < n → p i = false) : cnt n p = 0 := by
  unfold cnt
  rw [List.countP_eq_zero]
  intro i hi
  rw [h i (List.mem_range.1 hi)]; simp
theorem cnt_full {n : Nat} {p : Nat → Bool} (h : cnt n p = n) : ∀ i, i < n → p i = true := by
  have := (List.countP_eq_length (p := p) (l := List.range n)).1 (by simpa [cnt] using h)
  exact fun i hi => this i (List.mem_range.2 hi)

/-- What is remembered when a task of key k starts. -/
def memQ (sz : Nat) (m : List Nat) (k : Nat) : List Nat := if k ∈ m then k :: m.erase k else if sz = 0 then m else (k :: m).take sz
def rmQ1 (free : Nat → Nat) (ok : Nat → Bool) (best : Int) (v : Nat) : Int := if 0 < free v ∧ ok v = true ∧ (best < 0 ∨ free best.toNat < free v) then (v : Int) else best
/-- The roomiest. -/
def rmQ (free : Nat → Nat) (ok : Nat → Bool) : Nat → Int
  | 0 => -1
  | n + 1 => rmQ1 free ok (rmQ free ok n) n
def ruQ1 (wait inf : Nat → Nat) (best : Int) (j : Nat) : Int := if 0 < wait j ∧ (best < 0 ∨ inf j < inf best.toNat) then (j : Int) else best
/-- The job to start a task of. -/
def ruQ (wait inf : Nat → Nat) (n : Nat) : Int := (List.range n).foldl (ruQ1 wait inf) (-1)
theorem ruQ_succ (wait inf : Nat → Nat) (n : Nat) : ruQ wait inf (n + 1) = ruQ1 wait inf (ruQ wait inf n) n := by simp [ruQ, List.range_succ]
theorem ruQ_rng (wait inf : Nat → Nat) : ∀ n, (ruQ wait inf n = -1 ∧ ∀ j, j < n → wait j = 0) ∨ ∃ b : Nat, ruQ wait inf n = (b : Int) ∧ b < n ∧ 0 < wait b
  | 0 => Or.inl ⟨rfl, fun j hj => by omega⟩
  | n + 1 => by
    rw [ruQ_succ]
    unfold ruQ1
    split
    · rename_i h; exact Or.inr ⟨n, rfl, by omega, h.1⟩
    · rename_i hh
      rcases ruQ_rng wait inf n with ⟨h, h2⟩ | ⟨b, h, h2, h3⟩
      · refine Or.inl ⟨h, fun j hj => ?_⟩
        by_cases e : j = n
        · subst e; rw [h] at hh; omega
        · exact h2 j (by omega)
      · exact Or.inr ⟨b, h, by omega, h3⟩
theorem ruQ_congr {w1 w2 i1 i2 : Nat → Nat} : ∀ n, (∀ j, j < n → w1 j = w2 j ∧ i1 j = i2 j) → ruQ w1 i1 n = ruQ w2 i2 n
  | 0, _ => rfl
  | n + 1, h => by
    rw [ruQ_succ, ruQ_succ, ruQ_congr n (fun j hj => h j (by omega))]
    unfold ruQ1
    rw [(h n (by omega)).1, (h n (by omega)).2]
    rcases ruQ_rng w2 i2 n with ⟨e, _⟩ | ⟨b, e, hb, _⟩
    · rw [e]; simp
    · rw [e]
      have : i1 (b : Int).toNat = i2 (b : Int).toNat := by simp; exact (h b (by omega)).2
      rw [this]
theorem rmQ_rng (free : Nat → Nat) (ok : Nat → Bool) : ∀ n, (rmQ free ok n = -1 ∧ ∀ v, v < n → ok v = true → free v = 0) ∨ ∃ b : Nat, rmQ free ok n = (b : Int) ∧ b < n ∧ 0 < free b ∧ ok b = true ∧ (∀ v, v < n → ok v = true → free v ≤ free b) ∧ ∀ v, v < b → ok v = true → free v < free b
  | 0 => Or.inl ⟨rfl, fun v hv => by omega⟩
  | n + 1 => by
    show (rmQ1 _ _ _ _ = _ ∧ _) ∨ ∃ b : Nat, rmQ1 _ _ _ _ = _ ∧ _
    unfold rmQ1
    rcases rmQ_rng free ok n with ⟨h, h2⟩ | ⟨b, h, h2, h3, h4, h5, h6⟩
    · by_cases c : 0 < free n ∧ ok n = true
      · rw [if_pos ⟨c.1, c.2, Or.inl (by omega)⟩]
        refine Or.inr ⟨n, rfl, by omega, c.1, c.2, fun v hv ho => ?_, fun v hv ho => ?_⟩
        · by_cases e : v = n
          · subst e; omega
          · have := h2 v (by omega) ho; omega
        · have := h2 v hv ho; omega
      · rw [if_neg (fun hh => c ⟨hh.1, hh.2.1⟩)]
        refine Or.inl ⟨h, fun v hv ho => ?_⟩
        by_cases e : v = n
        · subst e
          by_cases z : free v = 0
          · exact z
          · exact absurd ⟨by omega, ho⟩ c
        · exact h2 v (by omega) ho
    · rw [h]
      by_cases c : 0 < free n ∧ ok n = true ∧ ((b : Int) < 0 ∨ free (b : Int).toNat < free n)
      · rw [if_pos c]
        have hlt : free b < free n := by rcases c.2.2 with z | z; · omega
                                         simpa using z
        refine Or.inr ⟨n, rfl, by omega, c.1, c.2.1, fun v hv ho => ?_, fun v hv ho => ?_⟩
        · by_cases e : v = n
          · subst e; omega
          · have := h5 v (by omega) ho; omega
        · have := h5 v hv ho; omega
      · rw [if_neg c]
        refine Or.inr ⟨b, rfl, by omega, h3, h4, fun v hv ho => ?_, h6⟩
        by_cases e : v = n
        · subst e
          rcases Nat.lt_or_ge (free b) (free v) with z | z
          · exact absurd ⟨by omega, ho, Or.inr (by simpa using z)⟩ c
          · exact z
        · exact h5 v (by omega) ho
theorem rmQ_congr {f1 f2 : Nat → Nat} {o1 o2 : Nat → Bool} {n : Nat} (h : ∀ v, v < n → f1 v = f2 v ∧ o1 v = o2 v) : rmQ f1 o1 n = rmQ f2 o2 n := by
  rcases rmQ_rng f1 o1 n with ⟨a1, a2⟩ | ⟨b, a1, a2, a3, a4, a5, a6⟩ <;> rcases rmQ_rng f2 o2 n with ⟨c1, c2⟩ | ⟨b', c1, c2, c3, c4, c5, c6⟩
  · rw [a1, c1]
  · have := a2 b' c2 (by rw [(h b' c2).2]; exact c4); rw [(h b' c2).1] at this; omega
  · have := c2 b a2 (by rw [← (h b a2).2]; exact a4); rw [← (h b a2).1] at this; omega
  · have e : b = b' := by
      have x1 := a5 b' c2 (by rw [(h b' c2).2]; exact c4)
      have x2 := c5 b a2 (by rw [← (h b a2).2]; exact a4)
      have y1 := (h b a2).1
      have y2 := (h b' c2).1
      rcases Nat.lt_trichotomy b b' with z | z | z
      · have := c6 b z (by rw [← (h b a2).2]; exact a4); omega
      · exact z
      · have := a6 b' z (by rw [(h b' c2).2]; exact c4); omega
    rw [a1, c1, e]

structure Par where
  n : Nat
  nJ : Nat
  nW : Nat
  nS : Nat
  nK : Nat
  sz : Nat
  pd : Nat
  job : Nat → Nat
  key : Nat → Nat
  dur : Nat → Nat
  arr : Nat → Nat
  own : Nat → Nat
  sticky : Bool
  lt : Nat → Nat → Prop
structure MS where
  now : Nat
  arrived : Nat → Bool
  started : Nat → Bool
  ended : Nat → Bool
  cold : Nat → Bool
  st : Nat → Nat
  en : Nat → Nat
  wk : Nat → Nat
  mem : Nat → List Nat
def MS.init : MS := ⟨0, fun _ => false, fun _ => false, fun _ => false, fun _ => false, fun _ => 0, fun _ => 0, fun _ => 0, fun _ => []⟩
def runs (s : MS) (v : Nat) (i : Nat) : Bool := s.started i && !s.ended i && s.wk i == v
def fr (P : Par) (s : MS) (v : Nat) : Nat := P.nS - cnt P.n (runs s v)
def waits (P : Par) (s : MS) (j : Nat) (i : Nat) : Bool := s.arrived i && !s.started i && P.job i == j
def flies (P : Par) (s : MS) (j : Nat) (i : Nat) : Bool := s.started i && !s.ended i && P.job i == j
def wait (P : Par) (s : MS) (j : Nat) : Nat := cnt P.n (waits P s j)
def infl (P : Par) (s : MS) (j : Nat) : Nat := cnt P.n (flies P s j)
def rm (P : Par) (s : MS) (k : Nat) : Int := rmQ (fr P s) (fun v => decide (k ∈ s.mem v)) P.nW
def rmA (P : Par) (s : MS) : Int := rmQ (fr P s) (fun _ => true) P.nW
def W (P : Par) (s : MS) (j t : Nat) : Prop := t < P.n ∧ P.job t = j ∧ s.arrived t = true ∧ s.started t = false
def WP (P : Par) (s : MS) (v t : Nat) : Prop := t < P.n ∧ P.own (P.key t) = v ∧ s.arrived t = true ∧ s.started t = false
def PickS (P : Par) (s : MS) (t v : Nat) : Prop := ∃ j : Nat, ruQ (wait P s) (infl P s) P.nJ = (j : Int) ∧ W P s j t ∧
  ((rm P s (P.key t) = (v : Int) ∧ ∀ t', W P s j t' → P.lt t' t → rm P s (P.key t') = -1) ∨
   ((∀ t', W P s j t' → rm P s (P.key t') = -1) ∧ (∀ t', W P s j t' → ¬ P.lt t' t) ∧ rmA P s = (v : Int)))
def PickP (P : Par) (s : MS) (t v : Nat) : Prop := v < P.nW ∧ 0 < fr P s v ∧ WP P s v t ∧ (∀ t', WP P s v t' → ¬ P.lt t' t) ∧ ∀ u, u < v → 0 < fr P s u → ∀ t', ¬ WP P s u t'
def Pick (P : Par) (s : MS) (t v : Nat) : Prop := if P.sticky then PickS P s t v else PickP P s t v
def NoPick (P : Par) (s : MS) : Prop := if P.sticky then rmA P s = -1 ∨ ruQ (wait P s) (infl P s) P.nJ = -1 else ∀ v, v < P.nW → 0 < fr P s v → ∀ t, ¬ WP P s v t
def isCold (P : Par) (s : MS) (t v : Nat) : Bool := decide (P.key t ∉ s.mem v)
def enOf (P : Par) (s : MS) (t v : Nat) : Nat := s.now + P.dur t + (if isCold P s t v then P.pd else 0)
def start (P : Par) (s : MS) (t v : Nat) : MS :=
  { s with started := upd s.started t true, st := upd s.st t s.now, en := upd s.en t (enOf P s t v), wk := upd s.wk t v, cold := upd s.cold t (isCold P s t v), mem := upd s.mem v (memQ P.sz (s.mem v) (P.key t)) }
def endOne (s : MS) (i : Nat) : MS := { s with ended := upd s.ended i true }
def arrOne (s : MS) (i : Nat) : MS := { s with arrived := upd s.arrived i true }
def endAll (s : MS) : MS := { s with ended := fun i => s.ended i || (s.started i && s.en i == s.now) }
def arrAll (P : Par) (s : MS) : MS := { s with arrived := fun i => s.arrived i || (decide (i < P.n) && decide (P.arr i ≤ s.now)) }
inductive Starts (P : Par) : MS → MS → Prop
  | stop {s : MS} : NoPick P s → Starts P s s
  | go {s s' : MS} {t v : Nat} : Pick P s t v → Starts P (start P s t v) s' → Starts P s s'
def Event (P : Par) (s : MS) (x : Nat) : Prop := (∃ i, i < P.n ∧ s.started i = true ∧ s.ended i = false ∧ s.en i = x) ∨ ∃ i, i < P.n ∧ s.arrived i = false ∧ P.arr i = x
def IsNext (P : Par) (s : MS) (x : Nat) : Prop := Event P s x ∧ ∀ y, Event P s y → x ≤ y
inductive Run (P : Par) : MS → MS → Prop
  | last {s s' : MS} : Starts P (arrAll P (endAll s)) s' → (∀ x, ¬ Event P s' x) → Run P s s'
  | more {s s1 s' : MS} {x : Nat} : Starts P (arrAll P (endAll s)) s1 → IsNext P s1 x → Run P { s1 with now := x } s' → Run P s s'

/-- What the machine keeps. -/
structure MI (P : Par) (s : MS) : Prop where
  sa : ∀ i, s.started i = true → s.arrived i = true
  es : ∀ i, s.ended i = true → s.started i = true
  an : ∀ i, s.arrived i = true → i < P.n
  fw : ∀ i, s.started i = true → s.wk i < P.nW
  fc : ∀ v, cnt P.n (runs s v) ≤ P.nS
  ml : ∀ v, (s.mem v).length ≤ P.sz ∧ (s.mem v).Nodup ∧ ∀ k ∈ s.mem v, k < P.nK
  tn : s.now ≤ 63 + 50 * cnt P.n s.started
  te : ∀ i, s.started i = true → s.en i ≤ 63 + 50 * cnt P.n s.started
structure PB (P : Par) : Prop where
  b1 : P.n ≤ 2048
  b2 : 0 < P.nW ∧ P.nW ≤ 4
  b3 : 0 < P.nS ∧ P.nS ≤ 3
  b4 : 0 < P.nJ ∧ P.nJ ≤ 4
  b5 : P.sz ≤ 3
  b6 : P.pd ≤ 19
  b7 : P.nK ≤ 5
  k : ∀ i, i < P.n → P.job i < P.nJ ∧ P.key i < P.nK ∧ P.dur i ≤ 31 ∧ P.arr i ≤ 63 ∧ P.own (P.key i) < P.nW
theorem MI.init (P : Par) : MI P MS.init := ⟨fun i h => by simp [MS.init] at h, fun i h => by simp [MS.init] at h, fun i h => by simp [MS.init] at h, fun i h => by simp [MS.init] at h, fun v => by rw [cnt_none (p := runs MS.init v) (fun i _ => rfl)]; omega, fun v => ⟨by simp [MS.init], by simp [MS.init], by simp [MS.init]⟩, by simp [MS.init], fun i h => by simp [MS.init] at h⟩
theorem MI.time {P : Par} (hP : PB P) {s : MS} (h : MI P s) : s.now ≤ 200000 ∧ ∀ i, s.started i = true → s.en i ≤ 200000 := by
  have := cnt_le P.n s.started
  have := hP.b1
  have := h.tn
  exact ⟨by omega, fun i hi => by have := h.te i hi; omega⟩
theorem runs_endOne (s : MS) (v i j : Nat) : runs (endOne s i) v j = (if j = i then false else runs s v j) := by
  unfold runs endOne upd
  by_cases e : j = i
  · subst e; simp
  · simp [e]
theorem MI.endOne {P : Par} {s : MS} (h : MI P s) {i : Nat} (hi : s.started i = true) : MI P (endOne s i) := by
  refine ⟨h.sa, fun j hj => ?_, h.an, h.fw, fun v => ?_, h.ml, h.tn, h.te⟩
  · by_cases e : j = i
    · subst e; exact hi
    · exact h.es j (by simpa [Ybulkdpsg.endOne, upd, e] using hj)
  · refine Nat.le_trans (cnt_mono fun j hj hr => ?_) (h.fc v)
    rw [runs_endOne] at hr
    split at hr
    · cases hr
    · exact hr
theorem MI.arrOne {P : Par} {s : MS} (h : MI P s) {i : Nat} (hi : i < P.n) : MI P (arrOne s i) := by
  refine ⟨fun j hj => ?_, h.es, fun j hj => ?_, h.fw, h.fc, h.ml, h.tn, h.te⟩
  · have := h.sa j hj
    show upd _ _ _ _ = _
    unfold upd; split
    · rfl
    · exact this
  · by_cases e : j = i
    · subst e; exact hi
    · exact h.an j (by simpa [Ybulkdpsg.arrOne, upd, e] using hj)
theorem MI.endAll {P : Par} {s : MS} (h : MI P s) : MI P (endAll s) := by
  refine ⟨h.sa, fun j hj => ?_, h.an, h.fw, fun v => ?_, h.ml, h.tn, h.te⟩
  · simp [Ybulkdpsg.endAll] at hj
    rcases hj with hj | hj
    · exact h.es j hj
    · exact hj.1
  · refine Nat.le_trans (cnt_mono fun j hj hr => ?_) (h.fc v)
    simp [runs, Ybulkdpsg.endAll] at hr ⊢
    exact ⟨⟨hr.1.1, hr.1.2.1⟩, hr.2⟩
theorem MI.arrAll {P : Par} {s : MS} (h : MI P s) : MI P (arrAll P s) := by
  refine ⟨fun j hj => ?_, h.es, fun j hj => ?_, h.fw, h.fc, h.ml, h.tn, h.te⟩
  · have := h.sa j hj
    simp [Ybulkdpsg.arrAll, this]
  · simp [Ybulkdpsg.arrAll] at hj
    rcases hj with hj | hj
    · exact h.an j hj
    · exact hj.1
theorem memQ_ok {sz nK k : Nat} {m : List Nat} (h1 : m.length ≤ sz) (h2 : m.Nodup) (h3 : ∀ x ∈ m, x < nK) (hk : k < nK) : (memQ sz m k).length ≤ sz ∧ (memQ sz m k).Nodup ∧ ∀ x ∈ memQ sz m k, x < nK := by
  unfold memQ
  by_cases e : k ∈ m
  · rw [if_pos e]
    have hl := List.length_erase (a := k) (l := m)
    rw [if_pos e] at hl
    have hp := List.length_pos_of_mem e
    refine ⟨by simp; omega, ?_, fun x hx => ?_⟩
    · rw [List.nodup_cons]; exact ⟨fun hh => ((List.Nodup.mem_erase_iff h2).1 hh).1 rfl, h2.erase k⟩
    · rcases List.mem_cons.1 hx with rfl | hx
      · exact hk
      · exact h3 x (List.mem_of_mem_erase hx)
  · rw [if_neg e]
    by_cases z : sz = 0
    · rw [if_pos z]; exact ⟨h1, h2, h3⟩
    · rw [if_neg z]
      have hn : (k :: m).Nodup := List.nodup_cons.2 ⟨e, h2⟩
      refine ⟨by simp; omega, hn.sublist (List.take_sublist _ _), fun x hx => ?_⟩
      rcases List.mem_cons.1 (List.mem_of_mem_take hx) with rfl | hx
      · exact hk
      · exact h3 x hx
theorem runs_start {P : Par} {s : MS} {t v u i : Nat} (ht : s.started t = false) (hte : s.ended t = false) : runs (start P s t v) u i = (if i = t then v == u else runs s u i) := by
  unfold runs start upd
  by_cases e : i = t
  · subst e; simp [hte]
  · simp [e]
theorem MI.start {P : Par} (hP : PB P) {s : MS} (h : MI P s) {t v : Nat} (hn : t < P.n) (ha : s.arrived t = true) (hs : s.started t = false) (hv : v < P.nW) (hf : 0 < fr P s v) : MI P (start P s t v) := by
  have hte : s.ended t = false := by
    cases e : s.ended t with
    | false => rfl
    | true => rw [h.es t e] at hs; cases hs
  have hc : cnt P.n (upd s.started t true) = cnt P.n s.started + 1 := cnt_add P.n hn hs (upd_same _ _ _) (fun j _ hne => upd_other _ _ hne)
  have hk := hP.k t hn
  refine ⟨fun j hj => ?_, fun j hj => ?_, h.an, fun j hj => ?_, fun u => ?_, fun u => ?_, ?_, fun j hj => ?_⟩
  · by_cases e : j = t
    · subst e; exact ha
    · exact h.sa j (by simpa [Ybulkdpsg.start, upd, e] using hj)
  · have := h.es j hj
    show upd _ _ _ _ = _
    unfold upd; split
    · rfl
    · exact this
  · show upd s.wk t v j < _
    by_cases e : j = t
    · subst e; rw [upd_same]; exact hv
    · rw [upd_other _ _ e]; exact h.fw j (by simpa [Ybulkdpsg.start, upd, e] using hj)
  · by_cases e : v = u
    · subst e
      have := cnt_add P.n (p := runs s v) (q := runs (Ybulkdpsg.start P s t v) v) (i := t) hn (by simp [runs, hs]) (by rw [runs_start hs hte]; simp) (fun j _ hne => by rw [runs_start hs hte, if_neg hne])
      unfold fr at hf
      omega
    · have : cnt P.n (runs (Ybulkdpsg.start P s t v) u) = cnt P.n (runs s u) := cnt_congr fun j hj => by
        rw [runs_start hs hte]
        by_cases e2 : j = t
        · subst e2; simp [runs, hs, e]
        · rw [if_neg e2]
      rw [this]; exact h.fc u
  · show (upd s.mem v _ u).length ≤ _ ∧ (upd s.mem v _ u).Nodup ∧ ∀ k ∈ upd s.mem v _ u, _
    by_cases e : u = v
    · subst e; rw [upd_same]; exact memQ_ok (h.ml u).1 (h.ml u).2.1 (h.ml u).2.2 hk.2.1
    · rw [upd_other _ _ e]; exact h.ml u
  · show s.now ≤ 63 + 50 * cnt P.n (upd s.started t true)
    have := h.tn; omega
  · show upd s.en t _ j ≤ 63 + 50 * cnt P.n (upd s.started t true)
    by_cases e : j = t
    · subst e; rw [upd_same]
      have := h.tn
      have := hP.b6
      unfold enOf; split <;> omega
    · rw [upd_other _ _ e]; have := h.te j (by simpa [Ybulkdpsg.start, upd, e] using hj); omega
theorem MI.next {P : Par} (hP : PB P) {s : MS} (h : MI P s) {x : Nat} (hx : IsNext P s x) : MI P { s with now := x } := by
  refine ⟨h.sa, h.es, h.an, h.fw, h.fc, h.ml, ?_, h.te⟩
  show x ≤ _
  rcases hx.1 with ⟨i, h1, h2, h3, h4⟩ | ⟨i, h1, h2, h3⟩
  · have := h.te i h2; show x ≤ 63 + 50 * cnt P.n s.started; omega
  · have := (hP.k i h1).2.2.2.1; show x ≤ 63 + 50 * cnt P.n s.started; omega
end Go.Proofs.Ybulkdpsg

/- S5830C: replay: what stands between its steps: plain. -/
import Derived.Test.YbulkdpsgV3
import Derived.Test.YbulkdpsgD11
import Derived.Test.YbulkdpsgW9
namespace Go.Proofs.Ybulkdpsg
open Go Go.RowKit Go.Sort Go.Proofs Go.Lib
set_option linter.unusedVariables false
set_option linter.unusedSimpArgs false

/-- What replay asks of a placement. -/
structure PLk (PL : (Nat → Nat) → World → MS → Prop) : Prop where
  kept : ∀ {own own' : Nat → Nat} {w w' : World} {s : MS} {T : Nat → Prop}, PL own w s → FrT own T w w' → OwnUp w own own' → (∀ x, T x → ¬ TP x) → PL own' w' s
  later : ∀ {own : Nat → Nat} {w : World} {s : MS} {x : Nat}, PL own w s → s.now ≤ x → PL own w { s with now := x }
def running (s : MS) (t : Nat) : Bool := s.started t && !s.ended t
def enT (s : MS) (t : Nat) : En := ⟨(s.en t : Int), (t : Int)⟩
/-- The row of runs. -/
structure Runs (w : World) (bru : Nat) (A : Par) (ρ : Nat → Nat) (s : MS) : Prop where
  row : ∃ cr, w.rowIs bru 79 (A.n * 4) cr ∧ ∀ t, t < A.n → s.started t = true → cr (ρ t * 4) = .int .i64 (s.st t : Int) ∧ cr (ρ t * 4 + 1) = .int .i64 (s.en t : Int) ∧ cr (ρ t * 4 + 2) = .int .i64 (s.wk t : Int) ∧ cr (ρ t * 4 + 3) = .bool (s.cold t)
structure RI (PL : (Nat → Nat) → World → MS → Prop) (base bt bru bs : Nat) (A : Par) (d : Array Tk) (ρ : Nat → Nat) (bw : Nat) (own : Nat → Nat) (w : World) (s : MS) (I : Ids) (S : WSt) (vq : Value) (dq : Array En) (a : Nat) : Prop where
  ws : WS own w base A.nW A.nK A.sz A.sz (A.pd : Int) I S
  bw_ : I.bw = bw
  wr : WRel A s S
  tk : Tks own w bt A.n A.nK d A.key
  pl : PL own w s
  ru : Runs w bru A ρ s
  hq : Hq w base bs vq dq
  hp : dq.toList.Perm ((flt A.n (running s)).map (enT s))
  o1 : own bru = 200
  o2 : own bs = 201
  o3 : ∀ b, vq.ownBlock = some b → own b = 202
  mi : MI A s
  hb : base ≤ w.heap.size
  ar : ∀ i, s.arrived i = true ↔ i < a
  an : a ≤ A.n
/-- The heap's root is the first to end. -/
theorem hp_root {d : Array En} (h : Hp d.size d) : ∀ k, k < d.size → d[0]!.at_ ≤ d[k]!.at_ := by
  intro k
  induction k using Nat.strongRecOn with
  | _ k ih =>
    intro hk
    by_cases e : k = 0
    · subst e; exact Int.le_refl _
    · have h1 := h k (by omega) hk
      have h2 := ih ((k - 1) / 2) (by omega) (by omega)
      omega
section
variable {PL : (Nat → Nat) → World → MS → Prop} {base bt bru bs bw : Nat} {A : Par} {d : Array Tk} {ρ : Nat → Nat} {own : Nat → Nat} {w : World} {s : MS} {I : Ids} {S : WSt} {vq : Value} {dq : Array En} {a : Nat}
theorem RI.mem (h : RI PL base bt bru bs A d ρ bw own w s I S vq dq a) {x : En} : x ∈ dq.toList ↔ ∃ t, t < A.n ∧ s.started t = true ∧ s.ended t = false ∧ x = enT s t := by
  rw [h.hp.mem_iff, List.mem_map]
  constructor
  · rintro ⟨t, h1, rfl⟩
    rw [flt_mem] at h1
    simp [running] at h1
    exact ⟨t, h1.1, h1.2.1, h1.2.2, rfl⟩
  · rintro ⟨t, h1, h2, h3, rfl⟩
    exact ⟨t, flt_mem.2 ⟨h1, by simp [running, h2, h3]⟩, rfl⟩
theorem arr_mem {d : Array En} {k : Nat} (hk : k < d.size) : d[k]! ∈ d.toList := by
  rw [getElem!_pos d k hk]; exact Array.getElem_mem_toList hk
theorem mem_arr {d : Array En} {x : En} (h : x ∈ d.toList) : ∃ k, k < d.size ∧ d[k]! = x := by
  obtain ⟨k, hk, rfl⟩ := List.mem_iff_getElem.1 h
  have hk' : k < d.size := by simpa using hk
  exact ⟨k, hk', by rw [getElem!_pos d k hk']; simp⟩
theorem RI.root (h : RI PL base bt bru bs A d ρ bw own w s I S vq dq a) (hn : 0 < dq.size) : ∃ t, t < A.n ∧ s.started t = true ∧ s.ended t = false ∧ dq[0]! = enT s t ∧ ∀ i, i < A.n → s.started i = true → s.ended i = false → s.en t ≤ s.en i := by
  obtain ⟨t, h1, h2, h3, h4⟩ := h.mem.1 (arr_mem hn)
  refine ⟨t, h1, h2, h3, h4, fun i hi h5 h6 => ?_⟩
  obtain ⟨k, hk, hk2⟩ := mem_arr (h.mem.2 ⟨i, hi, h5, h6, rfl⟩)
  have := hp_root h.hq.hp k hk
  rw [hk2, h4] at this
  simp only [enT] at this
  omega
theorem RI.empty (h : RI PL base bt bru bs A d ρ bw own w s I S vq dq a) (hn : dq.size = 0) : ∀ i, i < A.n → s.started i = true → s.ended i = true := fun i hi hs => by
  cases he : s.ended i with
  | true => rfl
  | false =>
    obtain ⟨k, hk, _⟩ := mem_arr (h.mem.2 ⟨i, hi, hs, he, rfl⟩)
    omega
theorem RI.size (h : RI PL base bt bru bs A d ρ bw own w s I S vq dq a) : dq.size ≤ A.n := by
  have := h.hp.length_eq
  rw [List.length_map] at this
  have h2 := flt_le A.n (running s)
  simp at this
  omega
theorem Runs.fr {w w' : World} {S : List Nat} (h : Runs w bru A ρ s) (hf : Fr S w w') (hn : bru ∉ S) : Runs w' bru A ρ s := by
  obtain ⟨cr, h1, h2⟩ := h.row
  exact ⟨cr, hf.row h1 hn, h2⟩
theorem Runs.frT {w w' : World} {T : Nat → Prop} (h : Runs w bru A ρ s) (hf : FrT own T w w') (hn : ¬ T (own bru)) : Runs w' bru A ρ s := by
  obtain ⟨cr, h1, h2⟩ := h.row
  exact ⟨cr, hf.row h1 hn, h2⟩
theorem Hq.frT {w w' : World} {T : Nat → Prop} {vq : Value} {dq : Array En} (h : Hq w base bs vq dq) (hf : FrT own T w w') (h1 : ¬ T (own bs)) (h2 : ∀ b, vq.ownBlock = some b → ¬ T (own b)) : Hq w' base bs vq dq := ⟨hf.row h.var h1, hf.own h.own h2, h.ne, h.hp⟩
theorem Hq.lt {w : World} {vq : Value} {dq : Array En} (h : Hq w base bs vq dq) : ∀ b, vq.ownBlock = some b → b < w.heap.size := fun b hb => (h.own.lt b hb).2
/-- A task has ended. -/
theorem RI.ended (hK : PLk PL) (h : RI PL base bt bru bs A d ρ bw own w s I S vq dq a) {t : Nat} (htn : t < A.n) (hs : s.started t = true) (he : s.ended t = false) {w1 w2 w3 : World} {v1 : Value} {d1 : Array En} {own' : Nat → Nat}
    (q1 : Hq w1 base bs v1 d1) (q2 : dq.toList.Perm (enT s t :: d1.toList)) (q3 : v1.ownBlock = vq.ownBlock) (q4 : Fr (bs :: vq.ownBlock.toList) w w1)
    (e1 : WS own w2 base A.nW A.nK A.sz A.sz (A.pd : Int) I { S with free := setN S.free (s.wk t) (S.free (s.wk t) + 1) }) (e2 : Fr [I.bf, I.bw] w1 w2)
    (p1 : PL own' w3 (endOne s t)) (p2 : OwnUp w2 own own') (p3 : FrT own TP w2 w3) :
    RI PL base bt bru bs A d ρ bw own' w3 (endOne s t) I { S with free := setN S.free (s.wk t) (S.free (s.wk t) + 1) } v1 d1 a ∧ OwnUp w own own' ∧ FrT own (fun x => x ≠ 0) w w3 := by
  have f1 : FrT own (fun x => x = 201 ∨ x = 202) w w1 := FrT.of q4 (fun b _ hb => by
    rcases List.mem_cons.1 hb with rfl | hb
    · exact Or.inl h.o2
    · simp at hb; exact Or.inr (h.o3 b hb))
  have hw1 : WS own w1 base A.nW A.nK A.sz A.sz (A.pd : Int) I S := h.ws.kept f1 (OwnUp.refl _ _) (fun x hx => by omega)
  have f2 : FrT own (fun x => x = 1 ∨ x = 2) w1 w2 := FrT.of e2 (fun b _ hb => by
    simp at hb
    rcases hb with rfl | rfl
    · exact Or.inr hw1.of_
    · exact Or.inl hw1.ow)
  have s1 := q4.size
  have s2 := e2.size
  have s3 := p3.size
  have nT : ∀ x, (1 ≤ x ∧ x < 40) ∨ x = 50 ∨ 200 ≤ x → ¬ TP x := fun x hx ht => by have := ht.1; have := ht.2; omega
  have lt1 : bru < w.heap.size := by obtain ⟨cr, h1, _⟩ := h.ru.row; exact h1.lt
  have oq1 : ∀ b, v1.ownBlock = some b → own b = 202 := fun b hb => h.o3 b (by rw [← q3]; exact hb)
  have hq2 : Hq w2 base bs v1 d1 := q1.frT f2 (by rw [h.o2]; omega) (fun b hb => by rw [oq1 b hb]; omega)
  have up : OwnUp w own own' := fun k hk => p2 k (by omega)
  refine ⟨⟨e1.kept p3 p2 (fun x hx hh => nT x (by omega) hx), h.bw_, ⟨fun v hv => ?_, h.wr.mem⟩, ((h.tk.kept f1 (OwnUp.refl _ _) (by omega)).kept f2 (OwnUp.refl _ _) (by omega)).kept p3 p2 (nT 50 (by omega)), p1, ?_, hq2.frT p3 (by rw [h.o2]; exact nT _ (by omega)) (fun b hb => by rw [oq1 b hb]; exact nT _ (by omega)), ?_, by rw [up _ lt1]; exact h.o1, by rw [up _ h.hq.var.lt]; exact h.o2, fun b hb => by rw [up _ (h.hq.lt b (by rw [← q3]; exact hb))]; exact oq1 b hb, h.mi.endOne hs, by have := h.hb; omega, h.ar, h.an⟩, up, ?_⟩
  · have hr := runs_end (A := A) htn hs he v
    have hfree := h.wr.free v hv
    have hfc := h.mi.fc v
    show setN S.free (s.wk t) (S.free (s.wk t) + 1) v = _
    unfold setN fr
    by_cases e : v = s.wk t
    · rw [if_pos e, ← e, hfree]; rw [if_pos e.symm] at hr; unfold fr; omega
    · rw [if_neg e, hfree]; rw [if_neg (fun hh => e hh.symm)] at hr; unfold fr; omega
  · obtain ⟨cr, r1, r2⟩ := h.ru.row
    exact ⟨cr, p3.row (f2.row (f1.row r1 (by rw [h.o1]; omega)) (by rw [h.o1]; omega)) (by rw [h.o1]; exact nT _ (by omega)), r2⟩
  · have hp0 := flt_perm (p := running (endOne s t)) (q := running s) htn (by simp [running, endOne, upd]) (by simp [running, hs, he]) (fun i hi hne => by simp [running, endOne, upd, hne])
    have hp1 := (hp0.map (enT s)).symm.trans (h.hp.symm.trans q2)
    rw [List.map_cons] at hp1
    exact (List.Perm.cons_inv hp1).symm
  · exact ((f1.mono (fun x hx => by omega)).trans (OwnUp.refl _ _) (f2.mono (fun x hx => by omega))).trans (OwnUp.refl _ _) (p3.mono (fun x hx => by have := hx.1; omega))
/-- A task has arrived. -/
theorem RI.arrived (h : RI PL base bt bru bs A d ρ bw own w s I S vq dq a) (ha : a < A.n) {w3 : World} {own' : Nat → Nat} (p1 : PL own' w3 (arrOne s a)) (p2 : OwnUp w own own') (p3 : FrT own TP w w3) :
    RI PL base bt bru bs A d ρ bw own' w3 (arrOne s a) I S vq dq (a + 1) ∧ OwnUp w own own' ∧ FrT own (fun x => x ≠ 0) w w3 := by
  have nT : ∀ x, (1 ≤ x ∧ x < 40) ∨ x = 50 ∨ 200 ≤ x → ¬ TP x := fun x hx ht => by have := ht.1; have := ht.2; omega
  have lt1 : bru < w.heap.size := by obtain ⟨cr, h1, _⟩ := h.ru.row; exact h1.lt
  refine ⟨⟨h.ws.kept p3 p2 (fun x hx hh => nT x (by omega) hx), h.bw_, ⟨h.wr.free, h.wr.mem⟩, h.tk.kept p3 p2 (nT 50 (by omega)), p1, ?_, h.hq.frT p3 (by rw [h.o2]; exact nT _ (by omega)) (fun b hb => by rw [h.o3 b hb]; exact nT _ (by omega)), h.hp, by rw [p2 _ lt1]; exact h.o1, by rw [p2 _ h.hq.var.lt]; exact h.o2, fun b hb => by rw [p2 _ (h.hq.lt b hb)]; exact h.o3 b hb, h.mi.arrOne ha, Nat.le_trans h.hb p3.size, fun i => ?_, by omega⟩, p2, p3.mono (fun x hx => by have := hx.1; omega)⟩
  · obtain ⟨cr, r1, r2⟩ := h.ru.row
    exact ⟨cr, p3.row r1 (by rw [h.o1]; exact nT _ (by omega)), r2⟩
  · show upd s.arrived a true i = true ↔ _
    by_cases e : i = a
    · subst e; rw [upd_same]; simp
    · rw [upd_other _ _ e, h.ar i]; omega
theorem RI.later (hK : PLk PL) (h : RI PL base bt bru bs A d ρ bw own w s I S vq dq a) {x : Nat} (hx : s.now ≤ x) (M : MI A { s with now := x }) : RI PL base bt bru bs A d ρ bw own w { s with now := x } I S vq dq a :=
  ⟨h.ws, h.bw_, ⟨h.wr.free, h.wr.mem⟩, h.tk, hK.later h.pl hx, ⟨h.ru.row⟩, h.hq, h.hp, h.o1, h.o2, h.o3, M, h.hb, h.ar, h.an⟩
/-- The run is written. -/
theorem Runs.store {w : World} {t v : Nat} (h : Runs w bru A ρ s) (htn : t < A.n) (hρ : ∀ i, i < A.n → ρ i < A.n) (hinj : ∀ i j, i < A.n → j < A.n → ρ i = ρ j → i = j) :
    Runs ((((w.setCell ⟨bru, ρ t * 4, none⟩ (.int .i64 (s.now : Int))).setCell ⟨bru, ρ t * 4 + 1, none⟩ (.int .i64 (enOf A s t v : Int))).setCell ⟨bru, ρ t * 4 + 2, none⟩ (.int .i64 (v : Int))).setCell ⟨bru, ρ t * 4 + 3, none⟩ (.bool (isCold A s t v))) bru A ρ (start A s t v) := by
  obtain ⟨cr, r1, r2⟩ := h.row
  refine ⟨_, (((r1.set (ρ t * 4) _).set (ρ t * 4 + 1) _).set (ρ t * 4 + 2) _).set (ρ t * 4 + 3) _, fun i hi hs => ?_⟩
  by_cases e : i = t
  · subst e
    simp [start, upd]
  · have hne : ρ i ≠ ρ t := fun hh => e (hinj i t hi htn hh)
    have hs' : s.started i = true := by simpa [start, upd, e] using hs
    obtain ⟨a1, a2, a3, a4⟩ := r2 i hi hs'
    have e0 : (start A s t v).st i = s.st i := upd_other _ _ e
    have e1 : (start A s t v).en i = s.en i := upd_other _ _ e
    have e2 : (start A s t v).wk i = s.wk i := upd_other _ _ e
    have e3 : (start A s t v).cold i = s.cold i := upd_other _ _ e
    rw [e0, e1, e2, e3]
    refine ⟨?_, ?_, ?_, ?_⟩
    · rw [if_neg (by omega), if_neg (by omega), if_neg (by omega), if_neg (by omega)]; exact a1
    · rw [if_neg (by omega), if_neg (by omega), if_neg (by omega), if_neg (by omega)]; exact a2
    · rw [if_neg (by omega), if_neg (by omega), if_neg (by omega), if_neg (by omega)]; exact a3
    · rw [if_neg (by omega), if_neg (by omega), if_neg (by omega), if_neg (by omega)]; exact a4
/-- A task has started. -/
theorem RI.started (hK : PLk PL) (hPB : PB A) (h : RI PL base bt bru bs A d ρ bw own w s I S vq dq a) {t v : Nat} (hp : Pick A s t v) {w1 w2 w3 w4 : World} {own1 own2 : Nat → Nat} {I' : Ids} {S' : WSt} {v4 : Value} {d4 : Array En}
    (p1 : PL own1 w1 (start A s t v)) (p2 : OwnUp w own own1) (p3 : FrT own TP w w1)
    (s1 : Started own1 own2 w1 w2 base A.nW A.nK A.sz (A.pd : Int) I I' S S' v (A.key t))
    (r3 : Runs w3 bru A ρ (start A s t v)) (f3 : Fr [bru] w2 w3)
    (q1 : Hq w4 base bs v4 d4) (q2 : (enT (start A s t v) t :: dq.toList).Perm d4.toList) (q3 : v4.ownBlock = vq.ownBlock ∨ ∃ g, v4.ownBlock = some g ∧ w3.heap.size ≤ g) (q4 : Fr (bs :: vq.ownBlock.toList) w3 w4) :
    ∃ own', RI PL base bt bru bs A d ρ bw own' w4 (start A s t v) I' S' v4 d4 a ∧ OwnUp w own own' ∧ FrT own (fun x => x ≠ 0) w w4 := by
  have hf := pick_facts hp
  have hte : s.ended t = false := by
    cases e2 : s.ended t with
    | false => rfl
    | true => have := h.mi.es t e2; rw [hf.2.2.1] at this; cases this
  have nT : ∀ x, (1 ≤ x ∧ x < 40) ∨ x = 50 ∨ 200 ≤ x → ¬ TP x := fun x hx ht => by have := ht.1; have := ht.2; omega
  have lt1 : bru < w.heap.size := by obtain ⟨cr, h1, _⟩ := h.ru.row; exact h1.lt
  have lt2 : bs < w.heap.size := h.hq.var.lt
  have z1 := p3.size
  have z2 := s1.fr.size
  have z3 := f3.size
  have z4 := q4.size
  have o11 : own1 bru = 200 := by rw [p2 _ lt1]; exact h.o1
  have o12 : own1 bs = 201 := by rw [p2 _ lt2]; exact h.o2
  have o13 : ∀ b, vq.ownBlock = some b → own1 b = 202 := fun b hb => by rw [p2 _ (h.hq.lt b hb)]; exact h.o3 b hb
  have o21 : own2 bru = 200 := by rw [s1.up _ (by omega)]; exact o11
  have o22 : own2 bs = 201 := by rw [s1.up _ (by omega)]; exact o12
  have o23 : ∀ b, vq.ownBlock = some b → own2 b = 202 := fun b hb => by rw [s1.up _ (by have := h.hq.lt b hb; omega)]; exact o13 b hb
  have g3 : FrT own2 (fun x => x = 200) w2 w3 := FrT.of f3 (fun b _ hb => by simp at hb; subst hb; exact o21)
  have g4 : FrT own2 (fun x => x = 201 ∨ x = 202) w3 w4 := FrT.of q4 (fun b _ hb => by
    rcases List.mem_cons.1 hb with rfl | hb
    · exact Or.inl o22
    · simp at hb; exact Or.inr (o23 b hb))
  have hu3 : OwnUp w3 own2 (fun b => if b < w3.heap.size then own2 b else 202) := fun b hb => if_pos hb
  have up : OwnUp w own (fun b => if b < w3.heap.size then own2 b else 202) := fun b hb => by
    show (if _ then _ else _) = _
    rw [if_pos (by omega), s1.up b (by omega), p2 b hb]
  refine ⟨_, ⟨(s1.ws.kept g3 (OwnUp.refl _ _) (fun x hx => by omega)).kept g4 hu3 (fun x hx => by omega), by rw [s1.bw]; exact h.bw_, ⟨fun u hu => ?_, fun u hu => ?_⟩, ?_, ?_, ?_, q1, ?_, (up _ lt1).trans h.o1, (up _ lt2).trans h.o2, fun b hb => ?_, h.mi.start hPB hf.1 hf.2.1 hf.2.2.1 hf.2.2.2.1 hf.2.2.2.2, by have := h.hb; omega, h.ar, h.an⟩, up, ?_⟩
  · have hr := runs_st (A := A) (v := v) hf.1 hf.2.2.1 hte u
    have hfree := h.wr.free u hu
    rw [s1.free]
    unfold setN
    by_cases e : u = v
    · subst e
      rw [if_pos rfl, hfree]; rw [if_pos rfl] at hr; unfold fr; omega
    · rw [if_neg e, hfree]; rw [if_neg (fun hh => e hh.symm)] at hr; unfold fr; omega
  · show _ = upd s.mem v (memQ A.sz (s.mem v) (A.key t)) u
    by_cases e : u = v
    · subst e; rw [upd_same, s1.mem, h.wr.mem u hu]; rfl
    · rw [upd_other _ _ e, s1.oth u e, h.wr.mem u hu]
  · exact (((h.tk.kept p3 p2 (nT 50 (by omega))).kept s1.fr s1.up (by omega)).kept g3 (OwnUp.refl _ _) (by omega)).kept g4 hu3 (by omega)
  · have k2 := hK.kept p1 s1.fr s1.up (fun x hx => nT x (by omega))
    have k3 := hK.kept k2 g3 (OwnUp.refl _ _) (fun x hx => nT x (by omega))
    exact hK.kept k3 g4 hu3 (fun x hx => nT x (by omega))
  · exact r3.frT g4 (by rw [o21]; omega)
  · have hp0 := flt_perm (p := running s) (q := running (start A s t v)) hf.1 (by simp [running, hf.2.2.1]) (by simp [running, start, upd, hte]) (fun i hi hne => by simp [running, start, upd, hne])
    have hmap : (flt A.n (running s)).map (enT (start A s t v)) = (flt A.n (running s)).map (enT s) := by
      refine List.map_congr_left fun i hi => ?_
      have hne : i ≠ t := fun e => by
        rw [flt_mem] at hi; rw [e] at hi; simp [running, hf.2.2.1] at hi
      unfold enT
      rw [show (start A s t v).en i = s.en i from upd_other _ _ hne]
    have hp1 := hp0.map (enT (start A s t v))
    rw [List.map_cons, hmap] at hp1
    exact q2.symm.trans ((h.hp.cons _).trans hp1.symm)
  · show (if _ then _ else _) = _
    rcases q3 with e | ⟨g, e, hg⟩
    · rw [e] at hb
      rw [if_pos (by have := h.hq.lt b hb; omega)]; exact o23 b hb
    · rw [e] at hb; cases hb; rw [if_neg (by omega)]
  · have f12 : FrT own (fun x => x ≠ 0) w w2 := (p3.mono (fun x hx => by have := hx.1; omega)).trans p2 (s1.fr.mono (fun x hx => by omega))
    have u2 : OwnUp w own own2 := fun b hb => by rw [s1.up b (by omega), p2 b hb]
    exact (f12.trans u2 (g3.mono (fun x hx => by omega))).trans u2 (g4.mono (fun x hx => by omega))
end
end Go.Proofs.Ybulkdpsg

/- S5830C: (*workers).start: what a list's change means for the workers. -/
import Derived.Test.YbulkdpsgW2
namespace Go.Proofs.Ybulkdpsg
open Go Go.RowKit Go.Proofs Go.Lib
set_option linter.unusedVariables false
set_option linter.unusedSimpArgs false

def setL {α : Type} (f : Nat → α) (v : Nat) (x : α) : Nat → α := fun u => if u = v then x else f u
theorem setL_same {α : Type} (f : Nat → α) (v : Nat) (x : α) : setL f v x v = x := if_pos rfl
theorem setL_other {α : Type} (f : Nat → α) {v u : Nat} (x : α) (h : u ≠ v) : setL f v x u = f u := if_neg h
theorem WS.lel {own : Nat → Nat} {w : World} {base nW nK sz lm : Nat} {pen : Int} {I : Ids} {S : WSt} (h : WS own w base nW nK sz lm pen I S) : ∀ v, v < nW → ∀ e ∈ S.els v, e.1 < w.heap.size := fun v hv e he => by
  obtain ⟨cm, hrm, hl⟩ := h.rm
  have := (hl v hv).1
  unfold ListOk at this
  split at this
  · exact chain_lt _ _ this.ch e he
  · rw [this.2] at he; simp at he
theorem WS.relist {own own' : Nat → Nat} {w w' : World} {base nW nK sz lm : Nat} {pen : Int} {I : Ids} {S : WSt} (h : WS own w base nW nK sz lm pen I S) {v : Nat} (hv : v < nW) (es' : List (Nat × Nat)) (hv' : Nat → Value) (hold' : Nat → List Nat)
    {cm cm' : Nat → Value} (hcm : w.rowIs I.bm 120 (nW * 6) cm) (hl : ∀ v, v < nW → ListOk w I nW cm (S.ini v) v (S.els v) ∧ cm (v * 6 + 5) = .map (some (I.mp v)))
    (hD : Dl w' I.bm (v * 6) (nW * 6) cm' es') (hk : CmKeep (v * 6) cm cm')
    (hf : FrT own (fun x => x = 3 ∨ x = 4 ∨ x = 10 + v ∨ x = 20 + v ∨ (30 ≤ x ∧ x < 40)) w w') (hu : OwnUp w own own')
    (hmap : MapF w' (I.mp v) 10000 (elOf es')) (oel' : ∀ e ∈ es', own' e.1 = 20 + v) (ap' : (es'.map Prod.fst).Nodup) (kn' : (es'.map Prod.snd).Nodup) (kl' : ∀ e ∈ es', e.2 < nK) (ln' : es'.length ≤ lm)
    (rh' : w'.rowIs I.bh 48 nK hv') (ohv' : ∀ k, k < nK → ∀ b, (hv' k).ownBlock = some b → own' b = 30 + k)
    (ho' : ∀ k, k < nK → w'.ownsRow base 3 1 (hv' k) (hold' k).length ((hold' k).map fun (v : Nat) => .int .i64 (v : Int)))
    (hs' : ∀ k, k < nK → (hold' k).Nodup ∧ ∀ u, u ∈ hold' k ↔ u < nW ∧ k ∈ (setL S.els v es' u).map Prod.snd) :
    WS own' w' base nW nK sz lm pen { I with hv := hv' } { S with els := setL S.els v es', ini := setL S.ini v true, hold := hold' } := by
  have hb2 := h.b2
  have hb3 := h.b3
  have lel := h.lel
  have hrm := hcm
  refine ⟨by rw [hu _ h.rw_.lt]; exact h.ow, by rw [hu _ h.rf.lt]; exact h.of_, by rw [hu _ hrm.lt]; exact h.om, by rw [hu _ h.rh.lt]; exact h.oh, fun u hu' => by show own' (I.mp u) = _; rw [hu _ (h.mapf u hu').lt]; exact h.omp u hu', fun u hu' e he => ?_, ohv',
    hf.row h.rw_ (by rw [h.ow]; omega), hf.row h.rf (by rw [h.of_]; omega), ⟨cm', hD.row, fun u hu' => ?_⟩, fun u hu' => ?_, rh', ho', fun u hu' => ?_, fun u hu' => ?_, fun u hu' e he => ?_, fun u hu' => ?_, hs', h.b1, h.b2, h.b3, h.b4⟩
  · show own' e.1 = 20 + u
    have he' : e ∈ setL S.els v es' u := he
    by_cases huv : u = v
    · subst huv; rw [setL_same] at he'; exact oel' e he'
    · rw [setL_other _ _ huv] at he'; rw [hu _ (lel u hu' e he')]; exact h.oel u hu' e he'
  · show ListOk w' _ nW cm' (setL S.ini v true u) u (setL S.els v es' u) ∧ cm' (u * 6 + 5) = .map (some (I.mp u))
    refine ⟨?_, by rw [hk _ (by omega) (by omega) (by omega)]; exact (hl u hu').2⟩
    by_cases huv : u = v
    · subst huv; rw [setL_same, setL_same]; exact hD
    · rw [setL_other _ _ huv, setL_other _ _ huv]
      have hlv := (hl u hu').1
      unfold ListOk at hlv ⊢
      split at hlv
      · rename_i hi
        rw [if_pos hi]
        exact ⟨hD.row, hlv.fit, by rw [hk _ (by omega) (by omega) (by omega)]; exact hlv.nx, by rw [hk _ (by omega) (by omega) (by omega)]; exact hlv.pv, by rw [hk _ (by omega) (by omega) (by omega)]; exact hlv.ln, chain_of_rows _ _ (fun e he => hf.block _ (lel u hu' e he) (by rw [h.oel u hu' e he]; omega)) hlv.ch⟩
      · rename_i hi
        rw [if_neg hi]
        exact ⟨⟨hD.row, hlv.1.fit, by rw [hk _ (by omega) (by omega) (by omega)]; exact hlv.1.nx⟩, hlv.2⟩
  · show MapF w' (I.mp u) 10000 (elOf (setL S.els v es' u))
    by_cases huv : u = v
    · subst huv; rw [setL_same]; exact hmap
    · rw [setL_other _ _ huv]; exact hf.mapf (h.mapf u hu') (by rw [h.omp u hu']; omega)
  · show ((setL S.els v es' u).map Prod.fst).Nodup
    by_cases huv : u = v
    · subst huv; rw [setL_same]; exact ap'
    · rw [setL_other _ _ huv]; exact h.ap u hu'
  · show ((setL S.els v es' u).map Prod.snd).Nodup
    by_cases huv : u = v
    · subst huv; rw [setL_same]; exact kn'
    · rw [setL_other _ _ huv]; exact h.kn u hu'
  · have he' : e ∈ setL S.els v es' u := he
    by_cases huv : u = v
    · subst huv; rw [setL_same] at he'; exact kl' e he'
    · rw [setL_other _ _ huv] at he'; exact h.kl u hu' e he'
  · show (setL S.els v es' u).length ≤ lm
    by_cases huv : u = v
    · subst huv; rw [setL_same]; exact ln'
    · rw [setL_other _ _ huv]; exact h.ln u hu'
/-- What one remembers, the key k being started. -/
def memT (sz : Nat) (m : List Nat) (k : Nat) : List Nat := if k ∈ m then k :: m.erase k else if sz = 0 then m else (k :: m).take sz
/-- What (*workers).start leaves but for the free slots. -/
structure StOk (own own' : Nat → Nat) (w w' : World) (base nW nK sz lm : Nat) (pen : Int) (I I' : Ids) (S S' : WSt) (v k : Nat) : Prop where
  ws : WS own' w' base nW nK sz lm pen I' S'
  free : S'.free = S.free
  bw : I'.bw = I.bw
  bf : I'.bf = I.bf
  mem : (S'.els v).map Prod.snd = memT sz ((S.els v).map Prod.snd) k
  oth : ∀ u, u ≠ v → S'.els u = S.els u
  up : OwnUp w own own'
  fr : FrT own (fun x => 1 ≤ x ∧ x < 40) w w'
theorem erase_idx_snd {es : List (Nat × Nat)} {i : Nat} {e : Nat × Nat} (hn : (es.map Prod.snd).Nodup) (hi : es[i]? = some e) : (es.eraseIdx i).map Prod.snd = (es.map Prod.snd).erase e.2 := by
  induction es generalizing i with
  | nil => simp at hi
  | cons f r ih =>
    simp at hn
    cases i with
    | zero => simp at hi; subst hi; simp
    | succ i =>
      simp at hi
      have : f.2 ≠ e.2 := fun h => by
        have hm : e ∈ r := List.mem_of_getElem? hi
        exact hn.1 e.1 (by rw [h]; exact hm)
      rw [List.eraseIdx_cons_succ, List.map_cons, List.map_cons, List.erase_cons_tail (by simp [this]), ih hn.2 hi]
theorem elOf_some {es : List (Nat × Nat)} {i k : Nat} {e : Nat × Nat} (hn : (es.map Prod.snd).Nodup) (hi : es[i]? = some e) (hk : e.2 = k) : elOf es k = some (pn e.1 0) := by
  induction es generalizing i with
  | nil => simp at hi
  | cons f r ih =>
    simp at hn
    cases i with
    | zero => simp at hi; subst hi; simp [elOf, hk]
    | succ i =>
      simp at hi
      have hfk : f.2 ≠ k := fun h => by
        have hm : e ∈ r := List.mem_of_getElem? hi
        exact hn.1 e.1 (by rw [h, ← hk]; exact hm)
      have := ih hn.2 hi
      unfold elOf at this ⊢
      rw [List.find?_cons_of_neg (by simp [hfk])]
      exact this
theorem elOf_none {es : List (Nat × Nat)} {k : Nat} (h : k ∉ es.map Prod.snd) : elOf es k = none := by
  simp [elOf]
  intro a b hm e
  exact h (List.mem_map.2 ⟨(a, b), hm, e⟩)
theorem idx_of_key {es : List (Nat × Nat)} {k : Nat} (h : k ∈ es.map Prod.snd) : ∃ (i : Nat) (e : Nat × Nat), es[i]? = some e ∧ e.2 = k := by
  obtain ⟨e, he, hk⟩ := List.mem_map.1 h
  obtain ⟨i, hi⟩ := List.mem_iff_getElem?.1 he
  exact ⟨i, e, hi, hk⟩
theorem elOf_front {es : List (Nat × Nat)} {i : Nat} {e : Nat × Nat} (hn : (es.map Prod.snd).Nodup) (hi : es[i]? = some e) : elOf (e :: es.eraseIdx i) = elOf es := by
  funext k
  by_cases h : k = e.2
  · rw [elOf_some hn hi h.symm]; simp [elOf, h]
  · have h1 : elOf (e :: es.eraseIdx i) k = elOf (es.eraseIdx i) k := by simp [elOf]; rw [List.find?_cons_of_neg (by simp; exact fun x => h x.symm)]
    rw [h1]
    clear h1
    induction es generalizing i with
    | nil => simp
    | cons f r ih =>
      simp at hn
      cases i with
      | zero =>
        simp at hi; subst hi
        simp [elOf]; rw [List.find?_cons_of_neg (by simp; exact fun x => h x.symm)]
      | succ i =>
        simp at hi
        have := ih hn.2 hi
        simp only [List.eraseIdx_cons_succ, elOf] at this ⊢
        by_cases hf : f.2 = k
        · rw [List.find?_cons_of_pos (by simp [hf]), List.find?_cons_of_pos (by simp [hf])]
        · rw [List.find?_cons_of_neg (by simp [hf]), List.find?_cons_of_neg (by simp [hf])]; exact this
end Go.Proofs.Ybulkdpsg

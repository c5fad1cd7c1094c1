/- S5830C: THE WORKERS: what lies where; (*workers).end. -/
import Derived.Test.YbulkdpsgL3
import Derived.Test.YbulkdpsgM2
namespace Go.Proofs.Ybulkdpsg
open Go Go.RowKit Go.Proofs Go.Lib
set_option linter.unusedVariables false
set_option linter.unusedSimpArgs false

/-- All blocks that were there stand as they were, but for those whose tag is in T. -/
structure FrT (own : Nat → Nat) (T : Nat → Prop) (w w' : World) : Prop where
  os : w'.os = w.os
  tape : w'.tape = w.tape
  output : w'.output = w.output
  size : w.heap.size ≤ w'.heap.size
  block : ∀ k, k < w.heap.size → ¬ T (own k) → w'.heap[k]? = w.heap[k]?
theorem FrT.refl (own : Nat → Nat) (T : Nat → Prop) (w : World) : FrT own T w w := ⟨rfl, rfl, rfl, Nat.le_refl _, fun _ _ _ => rfl⟩
/-- The tags that follow say the same of what was there. -/
def OwnUp (w : World) (own own' : Nat → Nat) : Prop := ∀ k, k < w.heap.size → own' k = own k
theorem OwnUp.refl (w : World) (own : Nat → Nat) : OwnUp w own own := fun _ _ => rfl
theorem OwnUp.trans {w w' : World} {o1 o2 o3 : Nat → Nat} (h : OwnUp w o1 o2) (k : OwnUp w' o2 o3) (hs : w.heap.size ≤ w'.heap.size) : OwnUp w o1 o3 := fun i hi => (k i (by omega)).trans (h i hi)
theorem FrT.trans {own own' : Nat → Nat} {T : Nat → Prop} {a b c : World} (h : FrT own T a b) (hu : OwnUp a own own') (k : FrT own' T b c) : FrT own T a c :=
  ⟨k.os.trans h.os, k.tape.trans h.tape, k.output.trans h.output, Nat.le_trans h.size k.size, fun i hi hs => (k.block i (Nat.lt_of_lt_of_le hi h.size) (by rw [hu i hi]; exact hs)).trans (h.block i hi hs)⟩
theorem FrT.mono {own : Nat → Nat} {T T' : Nat → Prop} {a b : World} (h : FrT own T a b) (ht : ∀ x, T x → T' x) : FrT own T' a b := ⟨h.os, h.tape, h.output, h.size, fun k hk hn => h.block k hk (fun x => hn (ht _ x))⟩
theorem FrT.of {own : Nat → Nat} {T : Nat → Prop} {S : List Nat} {a b : World} (h : Fr S a b) (hs : ∀ k, k < a.heap.size → k ∈ S → T (own k)) : FrT own T a b := ⟨h.os, h.tape, h.output, h.size, fun k hk hn => h.block k hk (fun x => hn (hs k hk x))⟩
theorem FrT.row {own : Nat → Nat} {T : Nat → Prop} {w w' : World} (h : FrT own T w w') {b : Nat} {t : TypeId} {n : Nat} {f : Nat → Value} (hc : w.rowIs b t n f) (hn : ¬ T (own b)) : w'.rowIs b t n f := hc.of_block (h.block _ hc.lt hn)
theorem FrT.own {own : Nat → Nat} {T : Nat → Prop} {w w' : World} (h : FrT own T w w') {base : Nat} {e : TypeId} {size : Nat} {v : Value} {n : Nat} {xs : List Value} (ho : w.ownsRow base e size v n xs) (hn : ∀ k, v.ownBlock = some k → ¬ T (own k)) : w'.ownsRow base e size v n xs := by
  refine ⟨ho.1, ?_⟩
  rcases ho.2 with h1 | ⟨g, cap, cur, rfl, hb, hg, hc, hm, hs, ht⟩
  · exact Or.inl h1
  · exact Or.inr ⟨g, cap, cur, rfl, hb, (h.block g (Array.getElem?_eq_some_iff.1 hg).1 (hn g rfl)).trans hg, hc, hm, hs, ht⟩
theorem FrT.mapf {own : Nat → Nat} {T : Nat → Prop} {w w' : World} (h : FrT own T w w') {b n : Nat} {m : Nat → Option Value} (hm : MapF w b n m) (hn : ¬ T (own b)) : MapF w' b n m := by
  obtain ⟨D, hm, k⟩ := hm
  have hlt := hm.lt
  obtain ⟨es, clock, h1, h2⟩ := hm
  exact ⟨D, ⟨es, clock, (h.block b hlt hn).trans h1, h2⟩, k⟩

structure Ids where
  bw : Nat
  bf : Nat
  bm : Nat
  bh : Nat
  mp : Nat → Nat
  hv : Nat → Value
structure WSt where
  free : Nat → Nat
  els : Nat → List (Nat × Nat)
  ini : Nat → Bool
  hold : Nat → List Nat
/-- How many workers have a free slot. -/
def opn (free : Nat → Nat) : Nat → Nat
  | 0 => 0
  | n + 1 => opn free n + (if free n = 0 then 0 else 1)
def wsF (I : Ids) (nW nK sz : Nat) (pen : Int) (op : Nat) (i : Nat) : Value :=
  if i = 0 then .slice (some ⟨I.bf, 0, none⟩) nW nW else if i = 1 then .int .i64 (op : Int) else if i = 2 then .slice (some ⟨I.bm, 0, none⟩) nW nW else if i = 3 then .int .i64 (sz : Int) else if i = 4 then .slice (some ⟨I.bh, 0, none⟩) nK nK else .int .i64 pen
def elOf (es : List (Nat × Nat)) (k : Nat) : Option Value := (es.find? (fun e => e.2 == k)).map (fun e => pn e.1 0)
def ListOk (w : World) (I : Ids) (nW : Nat) (cm : Nat → Value) (ini : Bool) (v : Nat) (es : List (Nat × Nat)) : Prop :=
  if ini then Dl w I.bm (v * 6) (nW * 6) cm es else Dl0 w I.bm (v * 6) (nW * 6) cm ∧ es = []
structure WS (own : Nat → Nat) (w : World) (base nW nK sz lm : Nat) (pen : Int) (I : Ids) (S : WSt) : Prop where
  ow : own I.bw = 1
  of_ : own I.bf = 2
  om : own I.bm = 3
  oh : own I.bh = 4
  omp : ∀ v, v < nW → own (I.mp v) = 10 + v
  oel : ∀ v, v < nW → ∀ e ∈ S.els v, own e.1 = 20 + v
  ohv : ∀ k, k < nK → ∀ b, (I.hv k).ownBlock = some b → own b = 30 + k
  rw_ : w.rowIs I.bw 111 6 (wsF I nW nK sz pen (opn S.free nW))
  rf : w.rowIs I.bf 3 nW (fun v => .int .i64 (S.free v : Int))
  rm : ∃ cm, w.rowIs I.bm 120 (nW * 6) cm ∧ ∀ v, v < nW → ListOk w I nW cm (S.ini v) v (S.els v) ∧ cm (v * 6 + 5) = .map (some (I.mp v))
  mapf : ∀ v, v < nW → MapF w (I.mp v) 10000 (elOf (S.els v))
  rh : w.rowIs I.bh 48 nK I.hv
  ho : ∀ k, k < nK → w.ownsRow base 3 1 (I.hv k) (S.hold k).length ((S.hold k).map fun (v : Nat) => .int .i64 (v : Int))
  ap : ∀ v, v < nW → ((S.els v).map Prod.fst).Nodup
  kn : ∀ v, v < nW → ((S.els v).map Prod.snd).Nodup
  kl : ∀ v, v < nW → ∀ e ∈ S.els v, e.2 < nK
  ln : ∀ v, v < nW → (S.els v).length ≤ lm
  hs : ∀ k, k < nK → (S.hold k).Nodup ∧ ∀ v, v ∈ S.hold k ↔ v < nW ∧ k ∈ (S.els v).map Prod.snd
  b1 : sz ≤ 3 ∧ lm ≤ sz + 1
  b2 : 0 < nW ∧ nW ≤ 4
  b3 : nK ≤ 5
  b4 : ∀ v, v < nW → S.free v ≤ 3
theorem opn_le (free : Nat → Nat) : ∀ n, opn free n ≤ n
  | 0 => Nat.le_refl _
  | n + 1 => by have := opn_le free n; unfold opn; split <;> omega
theorem opn_congr {f g : Nat → Nat} : ∀ n, (∀ v, v < n → f v = g v) → opn f n = opn g n
  | 0, _ => rfl
  | n + 1, h => by unfold opn; rw [opn_congr n (fun v hv => h v (by omega)), h n (by omega)]
/-- One more free slot at v. -/
theorem opn_upd (free : Nat → Nat) (v x : Nat) : ∀ n, v < n → opn (fun u => if u = v then x else free u) n + (if free v = 0 then 0 else 1) = opn free n + (if x = 0 then 0 else 1)
  | 0, h => by omega
  | n + 1, h => by
    unfold opn
    by_cases e : v = n
    · subst e
      rw [opn_congr v (g := free) (fun u hu => by rw [if_neg (by omega)]), if_pos rfl]
      omega
    · have := opn_upd free v x n (by omega)
      rw [if_neg (show ¬ n = v by omega)]
      omega
theorem opn_pos (free : Nat → Nat) : ∀ n, 0 < opn free n ↔ ∃ v, v < n ∧ free v ≠ 0
  | 0 => by simp [opn]
  | n + 1 => by
    have ih := opn_pos free n
    unfold opn
    by_cases h : free n = 0
    · rw [if_pos h]
      constructor
      · intro hp; obtain ⟨v, h1, h2⟩ := ih.1 (by omega); exact ⟨v, by omega, h2⟩
      · rintro ⟨v, h1, h2⟩
        have : v < n := by
          rcases Nat.lt_or_ge v n with h' | h'
          · exact h'
          · exact absurd (by rw [show v = n by omega]; exact h) h2
        have := ih.2 ⟨v, this, h2⟩; omega
    · rw [if_neg h]
      exact ⟨fun _ => ⟨n, by omega, h⟩, fun _ => by omega⟩
theorem chain_of_rows {w w' : World} {bm ro : Nat} : ∀ (es : List (Nat × Nat)) (pv : Value), (∀ e ∈ es, w'.heap[e.1]? = w.heap[e.1]?) → Chain w bm ro pv es → Chain w' bm ro pv es
  | [], _, _, _ => trivial
  | [e], _, h, k => World.rowIs.of_block k (h e (by simp))
  | e :: f :: r, _, h, k => ⟨World.rowIs.of_block k.1 (h e (by simp)), chain_of_rows (f :: r) _ (fun x hx => h x (List.mem_cons_of_mem _ hx)) k.2⟩
theorem chain_lt {w : World} {bm ro : Nat} : ∀ (es : List (Nat × Nat)) (pv : Value), Chain w bm ro pv es → ∀ e ∈ es, e.1 < w.heap.size
  | [], _, _, e, h => by simp at h
  | [f], _, k, e, h => by simp at h; subst h; exact World.rowIs.lt k
  | f :: g :: r, _, k, e, h => by
    rcases List.mem_cons.1 h with rfl | h
    · exact World.rowIs.lt k.1
    · exact chain_lt (g :: r) _ k.2 e h
/-- The workers stand where nothing of theirs is touched. -/
theorem WS.kept {own own' : Nat → Nat} {T : Nat → Prop} {w w' : World} {base nW nK sz lm : Nat} {pen : Int} {I : Ids} {S : WSt} (h : WS own w base nW nK sz lm pen I S) (hf : FrT own T w w') (hu : OwnUp w own own') (hT : ∀ x, T x → ¬ (1 ≤ x ∧ x < 40)) : WS own' w' base nW nK sz lm pen I S := by
  have n40 : ∀ x, 1 ≤ x → x < 40 → ¬ T x := fun x h1 h2 ht => hT x ht ⟨h1, h2⟩
  obtain ⟨cm, hrm, hl⟩ := h.rm
  have hb2 := h.b2
  have hb3 := h.b3
  have lel : ∀ v, v < nW → ∀ e ∈ S.els v, e.1 < w.heap.size := fun v hv e he => by
    have := (hl v hv).1
    unfold ListOk at this
    split at this
    · exact chain_lt _ _ this.ch e he
    · rw [this.2] at he; simp at he
  have lhv : ∀ k, k < nK → ∀ b, (I.hv k).ownBlock = some b → b < w.heap.size := fun k hk b hb => ((h.ho k hk).lt b hb).2
  have hrm' : w'.rowIs I.bm 120 (nW * 6) cm := hf.row hrm (by rw [h.om]; exact n40 _ (by omega) (by omega))
  refine ⟨by rw [hu _ h.rw_.lt]; exact h.ow, by rw [hu _ h.rf.lt]; exact h.of_, by rw [hu _ hrm.lt]; exact h.om, by rw [hu _ h.rh.lt]; exact h.oh, fun v hv => by rw [hu _ (h.mapf v hv).lt]; exact h.omp v hv, fun v hv e he => by rw [hu _ (lel v hv e he)]; exact h.oel v hv e he, fun k hk b hb => by rw [hu _ (lhv k hk b hb)]; exact h.ohv k hk b hb,
    hf.row h.rw_ (by rw [h.ow]; exact n40 _ (by omega) (by omega)), hf.row h.rf (by rw [h.of_]; exact n40 _ (by omega) (by omega)), ⟨cm, hrm', fun v hv => ⟨?_, (hl v hv).2⟩⟩,
    fun v hv => hf.mapf (h.mapf v hv) (by rw [h.omp v hv]; exact n40 _ (by omega) (by omega)), hf.row h.rh (by rw [h.oh]; exact n40 _ (by omega) (by omega)), fun k hk => hf.own (h.ho k hk) (fun b hb => by rw [h.ohv k hk b hb]; exact n40 _ (by omega) (by omega)),
    h.ap, h.kn, h.kl, h.ln, h.hs, h.b1, h.b2, h.b3, h.b4⟩
  have hlv := (hl v hv).1
  unfold ListOk at hlv ⊢
  split at hlv
  · rename_i hi
    rw [if_pos hi]
    exact ⟨hrm', hlv.fit, hlv.nx, hlv.pv, hlv.ln, chain_of_rows _ _ (fun e he => hf.block _ (lel v hv e he) (by rw [h.oel v hv e he]; exact n40 _ (by omega) (by omega))) hlv.ch⟩
  · rename_i hi
    rw [if_neg hi]
    exact ⟨⟨hrm', hlv.1.fit, hlv.1.nx⟩, hlv.2⟩
end Go.Proofs.Ybulkdpsg

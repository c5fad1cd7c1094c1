/- S5830C: (*workers).start: the key is new. -/
import Derived.Test.YbulkdpsgW4
import Derived.Deep.RegionWith
namespace Go.Proofs.Ybulkdpsg
open Go Go.RowKit Go.Proofs Go.Lib
set_option linter.unusedVariables false
set_option linter.unusedSimpArgs false

theorem Dl.frT {own : Nat → Nat} {T : Nat → Prop} {w w' : World} {bm ro N : Nat} {cm : Nat → Value} {es : List (Nat × Nat)} (D : Dl w bm ro N cm es) (h : FrT own T w w') (hb : ¬ T (own bm)) (he : ∀ e ∈ es, ¬ T (own e.1)) : Dl w' bm ro N cm es :=
  ⟨h.row D.row hb, D.fit, D.nx, D.pv, D.ln, chain_of_rows _ _ (fun e hm => h.block _ (chain_lt _ _ D.ch e hm) (he e hm)) D.ch⟩
theorem Dl.fr {S : List Nat} {w w' : World} {bm ro N : Nat} {cm : Nat → Value} {es : List (Nat × Nat)} (D : Dl w bm ro N cm es) (h : Fr S w w') (hb : bm ∉ S) (he : ∀ e ∈ es, e.1 ∉ S) : Dl w' bm ro N cm es :=
  ⟨h.row D.row hb, D.fit, D.nx, D.pv, D.ln, chain_of_rows _ _ (fun e hm => h.block _ (chain_lt _ _ D.ch e hm) (he e hm)) D.ch⟩
theorem under112 : Yba.prog.underlying 112 = some (.map 3 113) := by kernel_rfl
theorem zero113 (w : World) : (zeroValue 113).run Yba.prog w = .ok (.pointer none) w := by kernel_rfl
/-- PushFront, whether the list has been made or not. -/
theorem ws_push {own : Nat → Nat} {w : World} {base nW nK sz : Nat} {pen : Int} {I : Ids} {S : WSt} (h : WS own w base nW nK sz sz pen I S) {v k : Nat} (hv : v < nW) {cm : Nat → Value} (hcm : w.rowIs I.bm 120 (nW * 6) cm) (hl : ∀ v, v < nW → ListOk w I nW cm (S.ini v) v (S.els v) ∧ cm (v * 6 + 5) = .map (some (I.mp v))) :
    Calls Yba.prog 49 #[pn I.bm (v * 6), .iface 3 (.int .i64 (k : Int))] w fun x w' => x = .returned (pn w.heap.size 0) ∧ ∃ cm', Dl w' I.bm (v * 6) (nW * 6) cm' ((w.heap.size, k) :: S.els v) ∧ CmKeep (v * 6) cm cm' ∧ Fr (I.bm :: (S.els v).map Prod.fst) w w' := by
  have hln := h.ln v hv
  have hb1 := h.b1
  have hlv := (hl v hv).1
  unfold ListOk at hlv
  split at hlv
  · exact pushf I.bm (v * 6) (nW * 6) cm w (S.els v) (by omega) hlv (apart_of h hv) k
  · rw [hlv.2]
    exact push_new k I.bm (v * 6) (nW * 6) cm w hlv.1
/-- Behind 'm.at[key] = m.recent.PushFront(key)'. -/
structure P6 (own : Nat → Nat) (w w' : World) (nW : Nat) (I : Ids) (S : WSt) (v k : Nat) (cm cm' : Nat → Value) : Prop where
  dl : Dl w' I.bm (v * 6) (nW * 6) cm' ((w.heap.size, k) :: S.els v)
  keep : CmKeep (v * 6) cm cm'
  map : MapF w' (I.mp v) 10000 (elOf ((w.heap.size, k) :: S.els v))
  fr : FrT own (fun x => x = 3 ∨ x = 10 + v ∨ x = 20 + v) w w'
theorem elOf_cons (e : Nat × Nat) (es : List (Nat × Nat)) : elOf (e :: es) = fun j => if j = e.2 then some (pn e.1 0) else elOf es j := by
  funext j
  unfold elOf
  by_cases h : j = e.2
  · rw [if_pos h, List.find?_cons_of_pos (by simp [h])]; rfl
  · rw [if_neg h, List.find?_cons_of_neg (by simp; exact fun x => h x.symm)]
/-- .. the store into the map. -/
theorem ws_put {own : Nat → Nat} {w w1 : World} {base nW nK sz : Nat} {pen : Int} {I : Ids} {S : WSt} (h : WS own w base nW nK sz sz pen I S) {v k : Nat} (hv : v < nW) (hk : k < nK) {cm cm' : Nat → Value} (hD : Dl w1 I.bm (v * 6) (nW * 6) cm' ((w.heap.size, k) :: S.els v)) (hkp : CmKeep (v * 6) cm cm') (hfr : Fr (I.bm :: (S.els v).map Prod.fst) w w1) :
    ∃ w2, (Instr.mapUpdate 112 (.map (some (I.mp v))) (.int .i64 (k : Int)) (pn w.heap.size 0)).run Yba.prog w1 = .ok () w2 ∧ P6 own w w2 nW I S v k cm cm' := by
  have hb2 := h.b2
  have hb3 := h.b3
  have nmp : I.mp v ∉ (I.bm :: (S.els v).map Prod.fst) := fun hm => by
    have ho := h.omp v hv
    rcases List.mem_cons.1 hm with e | hm
    · rw [e, h.om] at ho; omega
    · obtain ⟨f, hf, e⟩ := List.mem_map.1 hm
      have := h.oel v hv f hf
      rw [e, ho] at this; omega
  have hmf : MapF w1 (I.mp v) 10000 (elOf (S.els v)) := (h.mapf v hv).fr hfr nmp
  obtain ⟨w2, hr, hm2, hf2, hs2⟩ := hmf.store under112 (by omega) (show k < 10000 by omega) (pn w.heap.size 0)
  have hlmp := (h.mapf v hv).lt
  have nbm : I.bm ≠ I.mp v := fun e => nmp (by rw [← e]; simp)
  refine ⟨w2, hr, ⟨hD.fr hf2 (by simp [nbm]) (fun e he => ?_), hkp, ?_, ?_⟩⟩
  · simp
    rcases List.mem_cons.1 he with rfl | he
    · show w.heap.size ≠ I.mp v; omega
    · exact fun e' => nmp (List.mem_cons_of_mem _ (List.mem_map.2 ⟨e, he, e'⟩))
  · rw [elOf_cons]; exact hm2.tight
  · have f1 : FrT own (fun x => x = 3 ∨ x = 10 + v ∨ x = 20 + v) w w1 := FrT.of hfr (fun b _ hb => by
      rcases List.mem_cons.1 hb with rfl | hb
      · exact Or.inl h.om
      · obtain ⟨f, hf, rfl⟩ := List.mem_map.1 hb
        exact Or.inr (Or.inr (h.oel v hv f hf)))
    refine ⟨hf2.os.trans f1.os, hf2.tape.trans f1.tape, hf2.output.trans f1.output, Nat.le_trans f1.size hf2.size, fun i hi hn => (hf2.block i (Nat.lt_of_lt_of_le hi f1.size) ?_).trans (f1.block i hi hn)⟩
    simp
    intro e
    subst e
    exact hn (Or.inr (Or.inl (h.omp v hv)))
end Go.Proofs.Ybulkdpsg

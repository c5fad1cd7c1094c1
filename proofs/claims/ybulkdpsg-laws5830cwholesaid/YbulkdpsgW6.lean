/- S5830C: (*workers).start: a holder more. -/
import Derived.Test.YbulkdpsgW5
namespace Go.Proofs.Ybulkdpsg
open Go Go.RowKit Go.Proofs Go.Lib
set_option linter.unusedVariables false
set_option linter.unusedSimpArgs false

theorem WS.lmUp {own : Nat → Nat} {w : World} {base nW nK sz lm lm' : Nat} {pen : Int} {I : Ids} {S : WSt} (h : WS own w base nW nK sz lm pen I S) (h1 : ∀ v, v < nW → (S.els v).length ≤ lm') (h2 : lm' ≤ sz + 1) : WS own w base nW nK sz lm' pen I S :=
  ⟨h.ow, h.of_, h.om, h.oh, h.omp, h.oel, h.ohv, h.rw_, h.rf, h.rm, h.mapf, h.rh, h.ho, h.ap, h.kn, h.kl, h1, h.hs, ⟨h.b1.1, h2⟩, h.b2, h.b3, h.b4⟩
theorem fr_grownW {w w1 : World} {v : Value} {bs : Nat} (h : w.grownBy w1 v.ownBlock) : Fr (bs :: v.ownBlock.toList) w w1 :=
  ⟨h.os, h.tape, h.output, h.size, fun k hk hn => h.block k hk (fun e => hn (by simp [← e]))⟩
theorem own_frW {S : List Nat} {w w' : World} {base : Nat} {e : TypeId} {size : Nat} {v : Value} {n : Nat} {xs : List Value} (h : w.ownsRow base e size v n xs) (hf : Fr S w w') (hn : ∀ k, v.ownBlock = some k → k ∉ S) : w'.ownsRow base e size v n xs := by
  refine ⟨h.1, ?_⟩
  rcases h.2 with h1 | ⟨g, cap, cur, rfl, hb, hg, hc, hm, hs, ht⟩
  · exact Or.inl h1
  · exact Or.inr ⟨g, cap, cur, rfl, hb, (hf.block g (Array.getElem?_eq_some_iff.1 hg).1 (hn g rfl)).trans hg, hc, hm, hs, ht⟩
def slN (g n cap : Nat) : Value := .slice (some ⟨g, 0, none⟩) n cap
theorem ws_hold {own : Nat → Nat} {w w2 w3 : World} {base nW nK sz : Nat} {pen : Int} {I : Ids} {S : WSt} (h : WS own w base nW nK sz sz pen I S) {v k g cap : Nat} (hv : v < nW) (hk : k < nK) (hnk : k ∉ (S.els v).map Prod.snd) {cm cm' : Nat → Value} (hcm : w.rowIs I.bm 120 (nW * 6) cm) (hl : ∀ v, v < nW → ListOk w I nW cm (S.ini v) v (S.els v) ∧ cm (v * 6 + 5) = .map (some (I.mp v))) (P : P6 own w w2 nW I S v k cm cm')
    (hown : w3.ownsRow base 3 1 (slN g ((S.hold k).length + 1) cap) ((S.hold k).length + 1) (((S.hold k).map fun (v : Nat) => Value.int .i64 (v : Int)) ++ [.int .i64 (v : Int)])) (hgr : w2.grownBy w3 (I.hv k).ownBlock) (hat : (I.hv k).ownBlock = some g ∨ w2.heap.size ≤ g) :
    ∃ own', WS own' (w3.setCell ⟨I.bh, k, none⟩ (slN g ((S.hold k).length + 1) cap)) base nW nK sz (sz + 1) pen { I with hv := setL I.hv k (slN g ((S.hold k).length + 1) cap) } { S with els := setL S.els v ((w.heap.size, k) :: S.els v), ini := setL S.ini v true, hold := setL S.hold k (S.hold k ++ [v]) } ∧ OwnUp w own own' ∧ FrT own (fun x => 1 ≤ x ∧ x < 40) w (w3.setCell ⟨I.bh, k, none⟩ (slN g ((S.hold k).length + 1) cap)) := by
  have hb2 := h.b2
  have hb3 := h.b3
  have hlel := h.lel v hv
  have hlhv : ∀ j, j < nK → ∀ b, (I.hv j).ownBlock = some b → b < w.heap.size := fun j hj b hb => ((h.ho j hj).lt b hb).2
  have hsz : w.heap.size < w2.heap.size := chain_lt _ _ P.dl.ch (w.heap.size, k) (by simp)
  have hlbh := h.rh.lt
  have hlmp := (h.mapf v hv).lt
  have hlbm := hcm.lt
  have fr3 : Fr (I.bh :: (I.hv k).ownBlock.toList) w2 (w3.setCell ⟨I.bh, k, none⟩ (slN g ((S.hold k).length + 1) cap)) := (fr_grownW hgr).trans (Fr.setCell _ _ _ (by simp))
  have nS : ∀ b, own b ≠ 4 → own b ≠ 30 + k → b < w.heap.size → b ∉ (I.bh :: (I.hv k).ownBlock.toList) := fun b h1 h2 _ hm => by
    rcases List.mem_cons.1 hm with rfl | hm
    · exact h1 h.oh
    · simp at hm; exact h2 (h.ohv k hk b hm)
  have nS0 : ∀ b, w.heap.size ≤ b → b ∉ (I.bh :: (I.hv k).ownBlock.toList) := fun b h1 hm => by
    rcases List.mem_cons.1 hm with rfl | hm
    · omega
    · simp at hm; have := hlhv k hk b hm; omega
  have gne : g ≠ w.heap.size := by
    rcases hat with e | e
    · have := hlhv k hk g e; omega
    · omega
  have gbh : g ≠ I.bh := by
    rcases hat with e | e
    · intro e2; have := h.ohv k hk g e; rw [e2, h.oh] at this; omega
    · omega
  let own' : Nat → Nat := fun b => if b < w.heap.size then own b else if b = w.heap.size then 20 + v else 30 + k
  have hu : OwnUp w own own' := fun b hb => if_pos hb
  have oe0 : own' w.heap.size = 20 + v := by show (if _ then _ else _) = _; rw [if_neg (by omega), if_pos rfl]
  have og : own' g = 30 + k := by
    show (if _ then _ else _) = _
    rcases hat with e | e
    · rw [if_pos (hlhv k hk g e)]; exact h.ohv k hk g e
    · rw [if_neg (by omega), if_neg (by omega)]
  have hF : FrT own (fun x => x = 3 ∨ x = 4 ∨ x = 10 + v ∨ x = 20 + v ∨ (30 ≤ x ∧ x < 40)) w (w3.setCell ⟨I.bh, k, none⟩ (slN g ((S.hold k).length + 1) cap)) := by
    refine ⟨fr3.os.trans P.fr.os, fr3.tape.trans P.fr.tape, fr3.output.trans P.fr.output, Nat.le_trans P.fr.size fr3.size, fun b hb hn => (fr3.block b (by omega) (nS b (by omega) (by omega) hb)).trans (P.fr.block b hb (by omega))⟩
  refine ⟨own', (h.lmUp (lm' := sz + 1) (fun u hu' => by have := h.ln u hu'; omega) (Nat.le_refl _)).relist hv _ _ _ hcm hl (P.dl.fr fr3 (nS _ (by rw [h.om]; omega) (by rw [h.om]; omega) hlbm) ?_) P.keep hF hu (P.map.fr fr3 (nS _ (by rw [h.omp v hv]; omega) (by rw [h.omp v hv]; omega) hlmp)) ?_ ?_ ?_ ?_ ?_ ?_ ?_ ?_ ?_, hu, hF.mono (fun x hx => by omega)⟩
  · intro e he
    rcases List.mem_cons.1 he with rfl | he
    · exact nS0 _ (Nat.le_refl _)
    · exact nS _ (by rw [h.oel v hv e he]; omega) (by rw [h.oel v hv e he]; omega) (hlel e he)
  · intro e he
    rcases List.mem_cons.1 he with rfl | he
    · exact oe0
    · rw [hu _ (hlel e he)]; exact h.oel v hv e he
  · rw [List.map_cons, List.nodup_cons]
    refine ⟨fun hm => ?_, h.ap v hv⟩
    obtain ⟨e, he, hb⟩ := List.mem_map.1 hm
    have := hlel e he
    simp at hb; omega
  · rw [List.map_cons, List.nodup_cons]; exact ⟨hnk, h.kn v hv⟩
  · intro e he
    rcases List.mem_cons.1 he with rfl | he
    · exact hk
    · exact h.kl v hv e he
  · have := h.ln v hv; simp; omega
  · have r2 : w2.rowIs I.bh 48 nK I.hv := P.fr.row h.rh (by rw [h.oh]; omega)
    have r3 : w3.rowIs I.bh 48 nK I.hv := r2.of_block (hgr.block _ r2.lt (fun e => by have := h.ohv k hk I.bh e.symm; rw [h.oh] at this; omega))
    exact (r3.set k _).congr fun j _ => by unfold setL; rfl
  · intro j hj b hb
    by_cases e : j = k
    · subst e; rw [setL_same] at hb; simp [slN, Value.ownBlock] at hb; subst hb; exact og
    · rw [setL_other _ _ e] at hb; rw [hu _ (hlhv j hj b hb)]; exact h.ohv j hj b hb
  · intro j hj
    by_cases e : j = k
    · subst e
      rw [setL_same, setL_same]
      have := own_frW (S := [I.bh]) hown (Fr.setCell w3 ⟨I.bh, j, none⟩ (slN g ((S.hold j).length + 1) cap) (by simp)) (fun b hb => by simp [slN, Value.ownBlock] at hb; subst hb; simp [gbh])
      simpa using this
    · rw [setL_other _ _ e, setL_other _ _ e]
      refine own_frW (P.fr.own (h.ho j hj) (fun b hb => by rw [h.ohv j hj b hb]; omega)) fr3 (fun b hb => ?_)
      exact nS b (by rw [h.ohv j hj b hb]; omega) (by rw [h.ohv j hj b hb]; omega) (hlhv j hj b hb)
  · intro j hj
    have hsj := h.hs j hj
    have hkeys : ∀ u, j ∈ (setL S.els v ((w.heap.size, k) :: S.els v) u).map Prod.snd ↔ j ∈ (S.els u).map Prod.snd ∨ (u = v ∧ j = k) := fun u => by
      by_cases e : u = v
      · subst e; rw [setL_same, List.map_cons, List.mem_cons]; simp; exact or_comm
      · rw [setL_other _ _ e]; simp [e]
    by_cases e : j = k
    · subst e
      rw [setL_same]
      have hnv : v ∉ S.hold j := fun hm => hnk ((hsj.2 v).1 hm).2
      refine ⟨?_, fun u => ?_⟩
      · rw [List.nodup_append]; refine ⟨hsj.1, by simp, fun a ha b hb => ?_⟩
        simp at hb; subst hb; exact fun e => hnv (e ▸ ha)
      · rw [hkeys u, List.mem_append, hsj.2 u]; simp
        constructor
        · rintro (⟨h1, h2⟩ | rfl)
          · exact ⟨h1, Or.inl h2⟩
          · exact ⟨hv, Or.inr rfl⟩
        · rintro ⟨h1, h2 | rfl⟩
          · exact Or.inl ⟨h1, h2⟩
          · exact Or.inr rfl
    · rw [setL_other _ _ e]
      refine ⟨hsj.1, fun u => ?_⟩
      rw [hkeys u, hsj.2 u]; simp [e]
end Go.Proofs.Ybulkdpsg

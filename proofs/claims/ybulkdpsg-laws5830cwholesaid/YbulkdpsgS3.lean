/- S5830C: the sticky placement: arrive: plain part. -/
import Derived.Test.YbulkdpsgS2
namespace Go.Proofs.Ybulkdpsg
open Go Go.RowKit Go.Sort Go.Proofs Go.Lib
set_option linter.unusedVariables false
set_option linter.unusedSimpArgs false

def set2 {α : Type} (f : Nat → Nat → α) (j k : Nat) (x : α) : Nat → Nat → α := fun a b => if a = j ∧ b = k then x else f a b
theorem set2_same {α : Type} (f : Nat → Nat → α) (j k : Nat) (x : α) : set2 f j k x j k = x := if_pos ⟨rfl, rfl⟩
theorem set2_other {α : Type} (f : Nat → Nat → α) {j k a b : Nat} (x : α) (h : ¬ (a = j ∧ b = k)) : set2 f j k x a b = f a b := if_neg h
/-- Job j's list of waiting tasks and one of its lists by key are set anew. -/
theorem St.reset {own own' : Nat → Nat} {w w' : World} {base bt n bw br nJ nK : Nat} {K : SId} {B : SSt} (h : St own w base bt n bw br nJ nK K B) {j k : Nat} (hj : j < nJ) (hk : k < nK) (vw' vk' : Value) (wl' bk' : List Nat) (st' : Nat → Bool)
    (hf : FrT own (fun x => x = 71 ∨ x = 72 ∨ x = 80 + j ∨ x = 90 + j ∨ x = 100 + 10 * j + k ∨ x < 70) w w') (hu : OwnUp w own own')
    (rj' : w'.rowIs K.bj 138 (nJ * 2) (jbF { K with vw := setL K.vw j vw' })) (rt' : w'.rowIs K.bst 4 n (fun t => .bool (st' t)))
    (ow' : ∀ b, vw'.ownBlock = some b → own' b = 80 + j) (qw' : OwnsQ w' base vw' wl') (lw' : wl'.length ≤ 2048) (wn' : ∀ t ∈ wl', t < n)
    (mp' : MapF w' (K.mpj j) 10000 (fun x => if x = k then (if bk' = [] then none else some vk') else bkF K B j x))
    (ok' : bk' ≠ [] → ∀ b, vk'.ownBlock = some b → own' b = 100 + 10 * j + k) (qk' : bk' ≠ [] → OwnsQ w' base vk' bk') (lk' : bk'.length ≤ 2048) (kn' : ∀ t ∈ bk', t < n) :
    St own' w' base bt n bw br nJ nK { K with vw := setL K.vw j vw', vk := set2 K.vk j k vk' } { wl := setL B.wl j wl', bk := set2 B.bk j k bk', started := st' } := by
  have b1 := h.b1
  have b2 := h.b2
  refine ⟨by rw [hu _ h.rs.lt]; exact h.os, by rw [hu _ h.rj.lt]; exact h.oj, by rw [hu _ h.rt.lt]; exact h.ot, fun i hi b hb => ?_, fun i hi => by show own' (K.mpj i) = _; rw [hu _ (h.mp i hi).lt]; exact h.om i hi, fun i hi x hx hne b hb => ?_, hf.row h.rs (by rw [h.os]; omega), rj', rt', fun i hi => ?_, fun i hi => ?_, fun i hi x hx hne => ?_, fun i hi x hx => ?_, fun i hi => ?_, fun i hi x => ?_, fun i hi t ht => ?_, fun i hi x t ht => ?_, h.b1, h.b2, h.b3⟩
  · have hb' : (setL K.vw j vw' i).ownBlock = some b := hb
    by_cases e : i = j
    · subst e; rw [setL_same] at hb'; exact ow' b hb'
    · rw [setL_other _ _ e] at hb'; rw [hu _ ((h.qw i hi).lt b hb')]; exact h.ow i hi b hb'
  · have hb' : (set2 K.vk j k vk' i x).ownBlock = some b := hb
    have hne' : set2 B.bk j k bk' i x ≠ [] := hne
    by_cases e : i = j ∧ x = k
    · obtain ⟨rfl, rfl⟩ := e; rw [set2_same] at hb' hne'; exact ok' hne' b hb'
    · rw [set2_other _ _ e] at hb' hne'; rw [hu _ ((h.qk i hi x hx hne').lt b hb')]; exact h.ok i hi x hx hne' b hb'
  · show OwnsQ w' base (setL K.vw j vw' i) (setL B.wl j wl' i)
    by_cases e : i = j
    · subst e; rw [setL_same, setL_same]; exact qw'
    · rw [setL_other _ _ e, setL_other _ _ e]; exact (h.qw i hi).frT hf (fun b hb => by rw [h.ow i hi b hb]; omega)
  · show MapF w' (K.mpj i) 10000 (fun x => if set2 B.bk j k bk' i x = [] then none else some (set2 K.vk j k vk' i x))
    by_cases e : i = j
    · subst e
      have : (fun x => if set2 B.bk i k bk' i x = [] then none else some (set2 K.vk i k vk' i x)) = (fun x => if x = k then (if bk' = [] then none else some vk') else bkF K B i x) := by
        funext x
        by_cases ex : x = k
        · subst ex; rw [if_pos rfl, set2_same, set2_same]
        · rw [if_neg ex, set2_other _ _ (fun hh => ex hh.2), set2_other _ _ (fun hh => ex hh.2)]; rfl
      rw [this]; exact mp'
    · have : (fun x => if set2 B.bk j k bk' i x = [] then none else some (set2 K.vk j k vk' i x)) = bkF K B i := by
        funext x
        rw [set2_other _ _ (fun hh => e hh.1), set2_other _ _ (fun hh => e hh.1)]; rfl
      rw [this]; exact hf.mapf (h.mp i hi) (by rw [h.om i hi]; omega)
  · show OwnsQ w' base (set2 K.vk j k vk' i x) (set2 B.bk j k bk' i x)
    have hne' : set2 B.bk j k bk' i x ≠ [] := hne
    by_cases e : i = j ∧ x = k
    · obtain ⟨rfl, rfl⟩ := e; rw [set2_same] at hne' ⊢; rw [set2_same]; exact qk' hne'
    · rw [set2_other _ _ e] at hne' ⊢; rw [set2_other _ _ e]; exact (h.qk i hi x hx hne').frT hf (fun b hb => by rw [h.ok i hi x hx hne' b hb]; omega)
  · show set2 B.bk j k bk' i x = []
    rw [set2_other _ _ (by omega)]; exact h.kd i hi x hx
  · show (setL B.wl j wl' i).length ≤ 2048
    by_cases e : i = j
    · subst e; rw [setL_same]; exact lw'
    · rw [setL_other _ _ e]; exact h.lw i hi
  · show (set2 B.bk j k bk' i x).length ≤ 2048
    by_cases e : i = j ∧ x = k
    · obtain ⟨rfl, rfl⟩ := e; rw [set2_same]; exact lk'
    · rw [set2_other _ _ e]; exact h.lk i hi x
  · have ht' : t ∈ setL B.wl j wl' i := ht
    by_cases e : i = j
    · subst e; rw [setL_same] at ht'; exact wn' t ht'
    · rw [setL_other _ _ e] at ht'; exact h.wn i hi t ht'
  · have ht' : t ∈ set2 B.bk j k bk' i x := ht
    by_cases e : i = j ∧ x = k
    · obtain ⟨rfl, rfl⟩ := e; rw [set2_same] at ht'; exact kn' t ht'
    · rw [set2_other _ _ e] at ht'; exact h.kn i hi x t ht'
end Go.Proofs.Ybulkdpsg

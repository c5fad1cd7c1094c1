/- S5830C: the sticky placement: next: plain part. -/
import Derived.Test.YbulkdpsgT3
namespace Go.Proofs.Ybulkdpsg
open Go Go.RowKit Go.Sort Go.Proofs Go.Lib
set_option linter.unusedVariables false
set_option linter.unusedSimpArgs false

def ns (B : SSt) (l : List Nat) : List Nat := l.filter (fun t => !B.started t)
/-- What is picked, and from where. -/
def Picked (nW : Nat) (S : WSt) (B : SSt) (key : Nat → Nat) (j t : Nat) (v : Int) : Prop :=
  (HeldK nW S (key t) ∧ (∀ k' t' l', HeldK nW S k' → B.bk j k' = t' :: l' → t ≤ t') ∧ v = roomL S.free (S.hold (key t))) ∨
  ((∀ k, HeldK nW S k → B.bk j k = []) ∧ (∃ r, ns B (B.wl j) = t :: r) ∧ v = roomL S.free (List.range nW))
/-- Where the ways to the picked task meet. -/
structure NxJ (own : Nat → Nat) (w wx : World) (base br nJ nW : Nat) (K : SId) (B : SSt) (S : WSt) (key : Nat → Nat) (vr vi : Value) (R' : RuSt) (j : Nat) (vw' : Value) (wl' : List Nat) : Prop where
  fr : FrT own (fun x => x = 41 ∨ x = 42 ∨ x = 43 ∨ x = 71) w wx
  rj : wx.rowIs K.bj 138 (nJ * 2) (jbF { K with vw := setL K.vw j vw' })
  q : OwnsQ wx base vw' wl'
  o : ∀ b, vw'.ownBlock = some b → own b = 80 + j
  fl : ns B wl' = ns B (B.wl j)
  sub : ∀ x ∈ wl', x ∈ B.wl j
  len : wl'.length ≤ (B.wl j).length
  ru : Ru own wx base br vr vi R'
theorem jbF_same (K : SId) (j : Nat) : jbF { K with vw := setL K.vw j (K.vw j) } = jbF K := by
  funext i
  unfold jbF
  by_cases e : i % 2 = 0
  · rw [if_pos e, if_pos e]
    show setL K.vw j (K.vw j) (i / 2) = _
    unfold setL; split
    · rename_i h; rw [h]
    · rfl
  · rw [if_neg e, if_neg e]
theorem NxJ.start {own : Nat → Nat} {w wx : World} {base bt n bw br nJ nK nW : Nat} {K : SId} {B : SSt} {S : WSt} {key : Nat → Nat} {vr vi : Value} {R' : RuSt} {j : Nat} (h : St own w base bt n bw br nJ nK K B) (hj : j < nJ) (hf : FrT own (fun x => x = 41 ∨ x = 42 ∨ x = 43) w wx) (hr : Ru own wx base br vr vi R') : NxJ own w wx base br nJ nW K B S key vr vi R' j (K.vw j) (B.wl j) :=
  ⟨hf.mono (fun x hx => by omega), by rw [jbF_same]; exact hf.row h.rj (by rw [h.oj]; omega), (h.qw j hj).frT hf (fun b hb => by have := h.b1; rw [h.ow j hj b hb]; omega), h.ow j hj, rfl, fun x hx => hx, Nat.le_refl _, hr⟩
theorem NxJ.other {own : Nat → Nat} {w wx wy : World} {base br nJ nW : Nat} {K : SId} {B : SSt} {S : WSt} {key : Nat → Nat} {vr vi : Value} {R' : RuSt} {j : Nat} {vw' : Value} {wl' : List Nat} (h : NxJ own w wx base br nJ nW K B S key vr vi R' j vw' wl') (hf : Fr [] wx wy) : NxJ own w wy base br nJ nW K B S key vr vi R' j vw' wl' := by
  have hF : FrT own (fun _ => False) wx wy := ⟨hf.os, hf.tape, hf.output, hf.size, fun k hk _ => hf.block k hk (by simp)⟩
  exact ⟨h.fr.trans (OwnUp.refl _ _) (hF.mono (fun x hx => hx.elim)), hf.row h.rj (by simp), h.q.fr hf (by simp), h.o, h.fl, h.sub, h.len, h.ru.kept hF (OwnUp.refl _ _) (fun x hx => hx.elim)⟩
/-- The first of the waiting tasks has started: it is passed over. -/
theorem NxJ.drop {own : Nat → Nat} {w wx : World} {base br nJ nW g off cap x : Nat} {K : SId} {B : SSt} {S : WSt} {key : Nat → Nat} {vr vi : Value} {R' : RuSt} {j : Nat} {l : List Nat} (h : NxJ own w wx base br nJ nW K B S key vr vi R' j (.slice (some ⟨g, off, none⟩) (l.length + 1) cap) (x :: l)) (hx : B.started x = true) (hj : j < nJ) (hJ : nJ ≤ 4) (oj : own K.bj = 71) : NxJ own w (wx.setCell ⟨K.bj, j * 2, none⟩ (.slice (some ⟨g, off + 1, none⟩) l.length (cap - 1))) base br nJ nW K B S key vr vi R' j (.slice (some ⟨g, off + 1, none⟩) l.length (cap - 1)) l := by
  have f : Fr [K.bj] wx (wx.setCell ⟨K.bj, j * 2, none⟩ (.slice (some ⟨g, off + 1, none⟩) l.length (cap - 1))) := Fr.setCell _ _ _ (by simp)
  have hF : FrT own (fun x => x = 71) wx (wx.setCell ⟨K.bj, j * 2, none⟩ (.slice (some ⟨g, off + 1, none⟩) l.length (cap - 1))) := FrT.of f (fun b _ hb => by simp at hb; subst hb; exact oj)
  have og := h.o g rfl
  refine ⟨h.fr.trans (OwnUp.refl _ _) (hF.mono (fun x hx => by omega)), ?_, h.q.tail.1.frT hF (fun b hb => by simp [Value.ownBlock] at hb; subst hb; rw [og]; omega), fun b hb => by simp [Value.ownBlock] at hb; subst hb; exact og, ?_, fun y hy => h.sub y (List.mem_cons_of_mem _ hy), by have := h.len; simp at this; omega, h.ru.kept hF (OwnUp.refl _ _) (fun x hx => by omega)⟩
  · refine (h.rj.set (j * 2) _).congr fun i hi => ?_
    unfold jbF
    by_cases e : i = j * 2
    · subst e; rw [if_pos rfl, if_pos (by omega)]; show _ = setL _ _ _ _; rw [show j * 2 / 2 = j by omega, setL_same]
    · rw [if_neg e]
      by_cases e2 : i % 2 = 0
      · rw [if_pos e2, if_pos e2]; show setL _ _ _ _ = setL _ _ _ _; rw [setL_other _ _ (by omega), setL_other _ _ (by omega)]
      · rw [if_neg e2, if_neg e2]
  · rw [← h.fl]; unfold ns; rw [List.filter_cons, hx]; simp
/-- The picked task is struck. -/
theorem St.picked {own : Nat → Nat} {w wx wy wz : World} {base bt n bw br nJ nK nW g off cap : Nat} {K : SId} {B : SSt} {S : WSt} {key : Nat → Nat} {vr vi : Value} {R' : RuSt} {j t : Nat} {vw' : Value} {wl' l : List Nat} (h : St own w base bt n bw br nJ nK K B) (hj : j < nJ) (X : NxJ own w wx base br nJ nW K B S key vr vi R' j vw' wl') (hk : key t < nK) (htn : t < n) (hb : B.bk j (key t) = t :: l)
    (qx : OwnsQ wx base (.slice (some ⟨g, off, none⟩) l.length cap) l) (og : l ≠ [] → own g = 100 + 10 * j + key t) (hm : MapF wy (K.mpj j) 10000 (fun x => if x = key t then (if l = [] then none else some (.slice (some ⟨g, off, none⟩) l.length cap)) else bkF K B j x)) (hfm : Fr [K.mpj j] wx wy)
    (hz : wz = wy.setCell ⟨K.bst, t, none⟩ (.bool true)) :
    ∃ K', St own wz base bt n bw br nJ nK K' { wl := setL B.wl j wl', bk := set2 B.bk j (key t) l, started := upd B.started t true } ∧ K'.bs = K.bs ∧ Ru own wz base br vr vi R' ∧ FrT own (fun x => x = 41 ∨ x = 42 ∨ x = 43 ∨ (70 ≤ x ∧ x < 200)) w wz := by
  have hJ := h.b1
  have hK := h.b2
  have f1 : FrT own (fun x => x = 90 + j) wx wy := FrT.of hfm (fun b _ hb => by simp at hb; subst hb; exact h.om j hj)
  have fz : Fr [K.bst] wy wz := by rw [hz]; exact Fr.setCell _ _ _ (by simp)
  have f2 : FrT own (fun x => x = 72) wy wz := FrT.of fz (fun b _ hb => by simp at hb; subst hb; exact h.ot)
  have fall : FrT own (fun x => x = 41 ∨ x = 42 ∨ x = 43 ∨ x = 71 ∨ x = 72 ∨ x = 90 + j) w wz := ((X.fr.mono (fun x hx => by omega)).trans (OwnUp.refl _ _) (f1.mono (fun x hx => by omega))).trans (OwnUp.refl _ _) (f2.mono (fun x hx => by omega))
  refine ⟨_, St.reset h hj hk vw' (.slice (some ⟨g, off, none⟩) l.length cap) wl' l (upd B.started t true) (fall.mono (fun x hx => by omega)) (OwnUp.refl _ _) (f2.row (f1.row X.rj (by rw [h.oj]; omega)) (by rw [h.oj]; omega)) ?_ X.o ?_ (Nat.le_trans X.len (h.lw j hj)) (fun x hx => h.wn j hj x (X.sub x hx)) ?_ ?_ ?_ (by have := h.lk j hj (key t); rw [hb] at this; simp at this; omega) (fun x hx => h.kn j hj (key t) x (by rw [hb]; exact List.mem_cons_of_mem _ hx)), rfl, (X.ru.kept f1 (OwnUp.refl _ _) (fun x hx => by omega)).kept f2 (OwnUp.refl _ _) (fun x hx => by omega), fall.mono (fun x hx => by omega)⟩
  · rw [hz]
    have r1 := f1.row (X.fr.row h.rt (by rw [h.ot]; omega)) (by rw [h.ot]; omega)
    refine (r1.set t _).congr fun i hi => ?_
    unfold upd
    by_cases e : i = t
    · rw [if_pos e, if_pos e]
    · rw [if_neg e, if_neg e]
  · exact (X.q.frT f1 (fun b hb => by rw [X.o b hb]; omega)).frT f2 (fun b hb => by rw [X.o b hb]; omega)
  · exact f2.mapf hm (by rw [h.om j hj]; omega)
  · intro hne b hb'; simp [Value.ownBlock] at hb'; subst hb'; exact og hne
  · intro hne
    exact (qx.frT f1 (fun b hb' => by simp [Value.ownBlock] at hb'; subst hb'; rw [og hne]; omega)).frT f2 (fun b hb' => by simp [Value.ownBlock] at hb'; subst hb'; rw [og hne]; omega)
end Go.Proofs.Ybulkdpsg

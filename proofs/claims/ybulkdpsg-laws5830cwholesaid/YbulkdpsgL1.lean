/- S5830C: the recent keys as a chain of elements. -/
import Derived.Test.YbulkdpsgD4
import Derived.Test.YbulkdpsgM1
namespace Go.Proofs.Ybulkdpsg
open Go Go.RowKit Go.Proofs Go.Lib
set_option linter.unusedVariables false
set_option linter.unusedSimpArgs false

/-- An element's four cells. -/
def elF (nx pv li : Value) (k : Nat) (i : Nat) : Value := if i = 0 then nx else if i = 1 then pv else if i = 2 then li else .iface 3 (.int .i64 (k : Int))
def El (w : World) (bm ro : Nat) (e : Nat × Nat) (nx pv : Value) : Prop := w.rowIs e.1 116 4 (elF nx pv (pn bm ro) e.2)
/-- The elements, one behind the other. -/
def Chain (w : World) (bm ro : Nat) : Value → List (Nat × Nat) → Prop
  | _, [] => True
  | pv, [e] => El w bm ro e (pn bm ro) pv
  | pv, e :: f :: r => El w bm ro e (pn f.1 0) pv ∧ Chain w bm ro (pn e.1 0) (f :: r)
def hdP (bm ro : Nat) : List (Nat × Nat) → Value
  | [] => pn bm ro
  | e :: _ => pn e.1 0
def ltP (bm ro : Nat) : List (Nat × Nat) → Value
  | [] => pn bm ro
  | [e] => pn e.1 0
  | _ :: f :: r => ltP bm ro (f :: r)
/-- The list at ro in the memories' row. -/
structure Dl (w : World) (bm ro N : Nat) (cm : Nat → Value) (es : List (Nat × Nat)) : Prop where
  row : w.rowIs bm 120 N cm
  fit : ro + 6 ≤ N
  nx : cm ro = hdP bm ro es
  pv : cm (ro + 1) = ltP bm ro es
  ln : cm (ro + 4) = .int .i64 (es.length : Int)
  ch : Chain w bm ro (pn bm ro) es
/-- .. not yet made. -/
structure Dl0 (w : World) (bm ro N : Nat) (cm : Nat → Value) : Prop where
  row : w.rowIs bm 120 N cm
  fit : ro + 6 ≤ N
  nx : cm ro = .pointer none
/-- The row but for the list's own cells. -/
def CmKeep (ro : Nat) (cm cm' : Nat → Value) : Prop := ∀ i, i ≠ ro → i ≠ ro + 1 → i ≠ ro + 4 → cm' i = cm i
theorem chain_drewN {w : World} {bm ro : Nat} (q : Nat) : ∀ {es : List (Nat × Nat)} {pv : Value}, Chain w bm ro pv es → Chain (w.drewN q) bm ro pv es
  | [], _, _ => trivial
  | [_], _, h => h
  | _ :: _ :: _, _, h => ⟨h.1, chain_drewN q h.2⟩
theorem dl_drewN {w : World} {bm ro N : Nat} {cm : Nat → Value} {es : List (Nat × Nat)} (h : Dl w bm ro N cm es) (q : Nat) : Dl (w.drewN q) bm ro N cm es := ⟨h.row, h.fit, h.nx, h.pv, h.ln, chain_drewN q h.ch⟩
theorem row_heap {w : World} {b : Nat} {t : TypeId} {n : Nat} {f : Nat → Value} (h : w.rowIs b t n f) : ∃ c, w.heap[b]? = some (.cells c t (0, 0)) := by obtain ⟨c, h, _⟩ := h; exact ⟨c, h⟩
theorem four {P : Nat → Prop} (h0 : P 0) (h1 : P 1) (h2 : P 2) (h3 : P 3) : ∀ i, i < 4 → P i := fun i hi => by
  rcases (show i = 0 ∨ i = 1 ∨ i = 2 ∨ i = 3 by omega) with rfl | rfl | rfl | rfl <;> assumption
set_option maxHeartbeats 400000 in
theorem mtf_21 (a b ka kb bm ro N : Nat) (cm : Nat → Value) (w : World) (D : Dl w bm ro N cm ([(a, ka), (b, kb)] : List (Nat × Nat))) (nab : a ≠ b) (nam : a ≠ bm) (nba : b ≠ a) (nbm : b ≠ bm) (nma : bm ≠ a) (nmb : bm ≠ b) :
    Calls Yba.prog 48 #[pn bm ro, pn b 0] w fun x w' => x = .returned (.tuple #[]) ∧ ∃ cm', Dl w' bm ro N cm' ([(b, kb), (a, ka)] : List (Nat × Nat)) ∧ CmKeep ro cm cm' ∧ Fr (bm :: ([(a, ka), (b, kb)] : List (Nat × Nat)).map Prod.fst) w w' := by
  have hfit := D.fit
  have ha : El w bm ro (a, ka) (pn b 0) (pn bm ro) := D.ch.1
  have hb : El w bm ro (b, kb) (pn bm ro) (pn a 0) := D.ch.2
  obtain ⟨_, he'⟩ := row_heap hb
  obtain ⟨_, hm'⟩ := row_heap D.row
  obtain ⟨_, hf'⟩ := row_heap ha
  have e1 : (binOp .eql 113 (pn b 0) (pn bm ro)).run Yba.prog w = .ok (.bool false) w := eq_other113 (by simp [nbm]) he' hm'
  have e2 : (binOp .eql 113 (pn a 0) (pn b 0)).run Yba.prog w = .ok (.bool false) w := eq_other113 (by simp [nab]) hf' he'
  have hF5 : ∃ z', (((((w.setCell ⟨a, 0, none⟩ (pn bm ro)).setCell ⟨bm, ro + 1, none⟩ (pn a 0)).setCell ⟨b, 1, none⟩ (pn bm ro)).setCell ⟨b, 0, none⟩ (pn a 0)).setCell ⟨bm, ro, none⟩ (pn b 0)).cell? ⟨a, 1, none⟩ = some z' := ⟨_, (((((ha.set (0) _).setOther (a := ⟨bm, ro + 1, none⟩) nam _).setOther (a := ⟨b, 1, none⟩) nab _).setOther (a := ⟨b, 0, none⟩) nab _).setOther (a := ⟨bm, ro, none⟩) nam _).cell (i := 1) (by omega)⟩
  have hm := move61 bm ro b a 0 bm ro a 0 w _ _ _ (hb.cell (i := 0) (by omega)) (hb.cell (i := 1) (by omega)) (ha.cell (i := 0) (by omega)) (by have h := D.row.cell (i := ro + 1) (by omega); rw [D.pv] at h; exact h) (by have h := D.row.cell (i := ro) (by omega); rw [D.nx] at h; exact h) (ha.cell (i := 1) (by omega)) (hb.frozen 0) (hb.frozen 1) (ha.frozen 0) (D.row.frozen (ro + 1)) (D.row.frozen ro) (ha.frozen 1) nba nbm nbm nba (by simp [nam]) (by simp [nam]) (by simp) hF5 e1
  refine (front48_move bm ro b a 0 bm ro a 0 w (hb.cell (i := 2) (by omega)) (by have h := D.row.cell (i := ro) (by omega); rw [D.nx] at h; exact h) e2 hm).mono ?_
  rintro x w' ⟨rfl, q, rfl⟩
  have key : ∃ cm', Dl (mvW w bm ro b a 0 bm ro a 0) bm ro N cm' ([(b, kb), (a, ka)] : List (Nat × Nat)) ∧ CmKeep ro cm cm' ∧ Fr (bm :: ([(a, ka), (b, kb)] : List (Nat × Nat)).map Prod.fst) w (mvW w bm ro b a 0 bm ro a 0) := ?_
  · obtain ⟨cm', k1, k2, k3⟩ := key
    exact ⟨rfl, cm', dl_drewN k1 q, k2, k3.trans (Fr.drewN _ _ q)⟩
  clear hm e1 e2 hF5 he' hm' hf'
  unfold mvW
  refine ⟨_, ⟨((((((D.row.setOther (a := ⟨a, 0, none⟩) nma _).set (ro + 1) _).setOther (a := ⟨b, 1, none⟩) nmb _).setOther (a := ⟨b, 0, none⟩) nmb _).set (ro) _).setOther (a := ⟨a, 1, none⟩) nma _), hfit, ?_, ?_, ?_, ?_⟩, ?_, ?_⟩
  · simp [hdP]
  · simp [ltP]
  · have := D.ln; simp at this ⊢; exact this
  · exact ⟨(((((((hb.setOther (a := ⟨a, 0, none⟩) nba _).setOther (a := ⟨bm, ro + 1, none⟩) nbm _).set (1) _).set (0) _).setOther (a := ⟨bm, ro, none⟩) nbm _).setOther (a := ⟨a, 1, none⟩) nba _)).congr (four (by simp [elF]) (by simp [elF]) (by simp [elF]) (by simp [elF])), (((((((ha.set (0) _).setOther (a := ⟨bm, ro + 1, none⟩) nam _).setOther (a := ⟨b, 1, none⟩) nab _).setOther (a := ⟨b, 0, none⟩) nab _).setOther (a := ⟨bm, ro, none⟩) nam _).set (1) _)).congr (four (by simp [elF]) (by simp [elF]) (by simp [elF]) (by simp [elF]))⟩
  · intro i h1 h2 h3; simp [h1, h2]
  · exact (((((Fr.setCell w _ _ (by simp)).trans (Fr.setCell _ _ _ (by simp))).trans (Fr.setCell _ _ _ (by simp))).trans (Fr.setCell _ _ _ (by simp))).trans (Fr.setCell _ _ _ (by simp))).trans (Fr.setCell _ _ _ (by simp))
set_option maxHeartbeats 400000 in
theorem mtf_31 (a b c ka kb kc bm ro N : Nat) (cm : Nat → Value) (w : World) (D : Dl w bm ro N cm ([(a, ka), (b, kb), (c, kc)] : List (Nat × Nat))) (nab : a ≠ b) (nac : a ≠ c) (nam : a ≠ bm) (nba : b ≠ a) (nbc : b ≠ c) (nbm : b ≠ bm) (nca : c ≠ a) (ncb : c ≠ b) (ncm : c ≠ bm) (nma : bm ≠ a) (nmb : bm ≠ b) (nmc : bm ≠ c) :
    Calls Yba.prog 48 #[pn bm ro, pn b 0] w fun x w' => x = .returned (.tuple #[]) ∧ ∃ cm', Dl w' bm ro N cm' ([(b, kb), (a, ka), (c, kc)] : List (Nat × Nat)) ∧ CmKeep ro cm cm' ∧ Fr (bm :: ([(a, ka), (b, kb), (c, kc)] : List (Nat × Nat)).map Prod.fst) w w' := by
  have hfit := D.fit
  have ha : El w bm ro (a, ka) (pn b 0) (pn bm ro) := D.ch.1
  have hb : El w bm ro (b, kb) (pn c 0) (pn a 0) := D.ch.2.1
  have hc : El w bm ro (c, kc) (pn bm ro) (pn b 0) := D.ch.2.2
  obtain ⟨_, he'⟩ := row_heap hb
  obtain ⟨_, hm'⟩ := row_heap D.row
  obtain ⟨_, hf'⟩ := row_heap ha
  have e1 : (binOp .eql 113 (pn b 0) (pn bm ro)).run Yba.prog w = .ok (.bool false) w := eq_other113 (by simp [nbm]) he' hm'
  have e2 : (binOp .eql 113 (pn a 0) (pn b 0)).run Yba.prog w = .ok (.bool false) w := eq_other113 (by simp [nab]) hf' he'
  have hF5 : ∃ z', (((((w.setCell ⟨a, 0, none⟩ (pn c 0)).setCell ⟨c, 1, none⟩ (pn a 0)).setCell ⟨b, 1, none⟩ (pn bm ro)).setCell ⟨b, 0, none⟩ (pn a 0)).setCell ⟨bm, ro, none⟩ (pn b 0)).cell? ⟨a, 1, none⟩ = some z' := ⟨_, (((((ha.set (0) _).setOther (a := ⟨c, 1, none⟩) nac _).setOther (a := ⟨b, 1, none⟩) nab _).setOther (a := ⟨b, 0, none⟩) nab _).setOther (a := ⟨bm, ro, none⟩) nam _).cell (i := 1) (by omega)⟩
  have hm := move61 bm ro b a 0 c 0 a 0 w _ _ _ (hb.cell (i := 0) (by omega)) (hb.cell (i := 1) (by omega)) (ha.cell (i := 0) (by omega)) (hc.cell (i := 1) (by omega)) (by have h := D.row.cell (i := ro) (by omega); rw [D.nx] at h; exact h) (ha.cell (i := 1) (by omega)) (hb.frozen 0) (hb.frozen 1) (ha.frozen 0) (hc.frozen 1) (D.row.frozen ro) (ha.frozen 1) nba nbc nbm nba (by simp [nac]) (by simp [nam]) (by simp [ncm]) hF5 e1
  refine (front48_move bm ro b a 0 c 0 a 0 w (hb.cell (i := 2) (by omega)) (by have h := D.row.cell (i := ro) (by omega); rw [D.nx] at h; exact h) e2 hm).mono ?_
  rintro x w' ⟨rfl, q, rfl⟩
  have key : ∃ cm', Dl (mvW w bm ro b a 0 c 0 a 0) bm ro N cm' ([(b, kb), (a, ka), (c, kc)] : List (Nat × Nat)) ∧ CmKeep ro cm cm' ∧ Fr (bm :: ([(a, ka), (b, kb), (c, kc)] : List (Nat × Nat)).map Prod.fst) w (mvW w bm ro b a 0 c 0 a 0) := ?_
  · obtain ⟨cm', k1, k2, k3⟩ := key
    exact ⟨rfl, cm', dl_drewN k1 q, k2, k3.trans (Fr.drewN _ _ q)⟩
  clear hm e1 e2 hF5 he' hm' hf'
  unfold mvW
  refine ⟨_, ⟨((((((D.row.setOther (a := ⟨a, 0, none⟩) nma _).setOther (a := ⟨c, 1, none⟩) nmc _).setOther (a := ⟨b, 1, none⟩) nmb _).setOther (a := ⟨b, 0, none⟩) nmb _).set (ro) _).setOther (a := ⟨a, 1, none⟩) nma _), hfit, ?_, ?_, ?_, ?_⟩, ?_, ?_⟩
  · simp [hdP]
  · have := D.pv; simp [ltP] at this ⊢; exact this
  · have := D.ln; simp at this ⊢; exact this
  · exact ⟨(((((((hb.setOther (a := ⟨a, 0, none⟩) nba _).setOther (a := ⟨c, 1, none⟩) nbc _).set (1) _).set (0) _).setOther (a := ⟨bm, ro, none⟩) nbm _).setOther (a := ⟨a, 1, none⟩) nba _)).congr (four (by simp [elF]) (by simp [elF]) (by simp [elF]) (by simp [elF])), (((((((ha.set (0) _).setOther (a := ⟨c, 1, none⟩) nac _).setOther (a := ⟨b, 1, none⟩) nab _).setOther (a := ⟨b, 0, none⟩) nab _).setOther (a := ⟨bm, ro, none⟩) nam _).set (1) _)).congr (four (by simp [elF]) (by simp [elF]) (by simp [elF]) (by simp [elF])), (((((((hc.setOther (a := ⟨a, 0, none⟩) nca _).set (1) _).setOther (a := ⟨b, 1, none⟩) ncb _).setOther (a := ⟨b, 0, none⟩) ncb _).setOther (a := ⟨bm, ro, none⟩) ncm _).setOther (a := ⟨a, 1, none⟩) nca _)).congr (four (by simp [elF]) (by simp [elF]) (by simp [elF]) (by simp [elF]))⟩
  · intro i h1 h2 h3; simp [h1, h2]
  · exact (((((Fr.setCell w _ _ (by simp)).trans (Fr.setCell _ _ _ (by simp))).trans (Fr.setCell _ _ _ (by simp))).trans (Fr.setCell _ _ _ (by simp))).trans (Fr.setCell _ _ _ (by simp))).trans (Fr.setCell _ _ _ (by simp))
set_option maxHeartbeats 400000 in
theorem mtf_32 (a b c ka kb kc bm ro N : Nat) (cm : Nat → Value) (w : World) (D : Dl w bm ro N cm ([(a, ka), (b, kb), (c, kc)] : List (Nat × Nat))) (nab : a ≠ b) (nac : a ≠ c) (nam : a ≠ bm) (nba : b ≠ a) (nbc : b ≠ c) (nbm : b ≠ bm) (nca : c ≠ a) (ncb : c ≠ b) (ncm : c ≠ bm) (nma : bm ≠ a) (nmb : bm ≠ b) (nmc : bm ≠ c) :
    Calls Yba.prog 48 #[pn bm ro, pn c 0] w fun x w' => x = .returned (.tuple #[]) ∧ ∃ cm', Dl w' bm ro N cm' ([(c, kc), (a, ka), (b, kb)] : List (Nat × Nat)) ∧ CmKeep ro cm cm' ∧ Fr (bm :: ([(a, ka), (b, kb), (c, kc)] : List (Nat × Nat)).map Prod.fst) w w' := by
  have hfit := D.fit
  have ha : El w bm ro (a, ka) (pn b 0) (pn bm ro) := D.ch.1
  have hb : El w bm ro (b, kb) (pn c 0) (pn a 0) := D.ch.2.1
  have hc : El w bm ro (c, kc) (pn bm ro) (pn b 0) := D.ch.2.2
  obtain ⟨_, he'⟩ := row_heap hc
  obtain ⟨_, hm'⟩ := row_heap D.row
  obtain ⟨_, hf'⟩ := row_heap ha
  have e1 : (binOp .eql 113 (pn c 0) (pn bm ro)).run Yba.prog w = .ok (.bool false) w := eq_other113 (by simp [ncm]) he' hm'
  have e2 : (binOp .eql 113 (pn a 0) (pn c 0)).run Yba.prog w = .ok (.bool false) w := eq_other113 (by simp [nac]) hf' he'
  have hF5 : ∃ z', (((((w.setCell ⟨b, 0, none⟩ (pn bm ro)).setCell ⟨bm, ro + 1, none⟩ (pn b 0)).setCell ⟨c, 1, none⟩ (pn bm ro)).setCell ⟨c, 0, none⟩ (pn a 0)).setCell ⟨bm, ro, none⟩ (pn c 0)).cell? ⟨a, 1, none⟩ = some z' := ⟨_, (((((ha.setOther (a := ⟨b, 0, none⟩) nab _).setOther (a := ⟨bm, ro + 1, none⟩) nam _).setOther (a := ⟨c, 1, none⟩) nac _).setOther (a := ⟨c, 0, none⟩) nac _).setOther (a := ⟨bm, ro, none⟩) nam _).cell (i := 1) (by omega)⟩
  have hm := move61 bm ro c b 0 bm ro a 0 w _ _ _ (hc.cell (i := 0) (by omega)) (hc.cell (i := 1) (by omega)) (hb.cell (i := 0) (by omega)) (by have h := D.row.cell (i := ro + 1) (by omega); rw [D.pv] at h; exact h) (by have h := D.row.cell (i := ro) (by omega); rw [D.nx] at h; exact h) (ha.cell (i := 1) (by omega)) (hc.frozen 0) (hc.frozen 1) (hb.frozen 0) (D.row.frozen (ro + 1)) (D.row.frozen ro) (ha.frozen 1) ncb ncm ncm nca (by simp [nbm]) (by simp [nbm]) (by simp) hF5 e1
  refine (front48_move bm ro c b 0 bm ro a 0 w (hc.cell (i := 2) (by omega)) (by have h := D.row.cell (i := ro) (by omega); rw [D.nx] at h; exact h) e2 hm).mono ?_
  rintro x w' ⟨rfl, q, rfl⟩
  have key : ∃ cm', Dl (mvW w bm ro c b 0 bm ro a 0) bm ro N cm' ([(c, kc), (a, ka), (b, kb)] : List (Nat × Nat)) ∧ CmKeep ro cm cm' ∧ Fr (bm :: ([(a, ka), (b, kb), (c, kc)] : List (Nat × Nat)).map Prod.fst) w (mvW w bm ro c b 0 bm ro a 0) := ?_
  · obtain ⟨cm', k1, k2, k3⟩ := key
    exact ⟨rfl, cm', dl_drewN k1 q, k2, k3.trans (Fr.drewN _ _ q)⟩
  clear hm e1 e2 hF5 he' hm' hf'
  unfold mvW
  refine ⟨_, ⟨((((((D.row.setOther (a := ⟨b, 0, none⟩) nmb _).set (ro + 1) _).setOther (a := ⟨c, 1, none⟩) nmc _).setOther (a := ⟨c, 0, none⟩) nmc _).set (ro) _).setOther (a := ⟨a, 1, none⟩) nma _), hfit, ?_, ?_, ?_, ?_⟩, ?_, ?_⟩
  · simp [hdP]
  · simp [ltP]
  · have := D.ln; simp at this ⊢; exact this
  · exact ⟨(((((((hc.setOther (a := ⟨b, 0, none⟩) ncb _).setOther (a := ⟨bm, ro + 1, none⟩) ncm _).set (1) _).set (0) _).setOther (a := ⟨bm, ro, none⟩) ncm _).setOther (a := ⟨a, 1, none⟩) nca _)).congr (four (by simp [elF]) (by simp [elF]) (by simp [elF]) (by simp [elF])), (((((((ha.setOther (a := ⟨b, 0, none⟩) nab _).setOther (a := ⟨bm, ro + 1, none⟩) nam _).setOther (a := ⟨c, 1, none⟩) nac _).setOther (a := ⟨c, 0, none⟩) nac _).setOther (a := ⟨bm, ro, none⟩) nam _).set (1) _)).congr (four (by simp [elF]) (by simp [elF]) (by simp [elF]) (by simp [elF])), (((((((hb.set (0) _).setOther (a := ⟨bm, ro + 1, none⟩) nbm _).setOther (a := ⟨c, 1, none⟩) nbc _).setOther (a := ⟨c, 0, none⟩) nbc _).setOther (a := ⟨bm, ro, none⟩) nbm _).setOther (a := ⟨a, 1, none⟩) nba _)).congr (four (by simp [elF]) (by simp [elF]) (by simp [elF]) (by simp [elF]))⟩
  · intro i h1 h2 h3; simp [h1, h2]
  · exact (((((Fr.setCell w _ _ (by simp)).trans (Fr.setCell _ _ _ (by simp))).trans (Fr.setCell _ _ _ (by simp))).trans (Fr.setCell _ _ _ (by simp))).trans (Fr.setCell _ _ _ (by simp))).trans (Fr.setCell _ _ _ (by simp))
end Go.Proofs.Ybulkdpsg

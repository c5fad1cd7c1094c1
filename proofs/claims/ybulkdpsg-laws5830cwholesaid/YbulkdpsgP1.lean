/- S5830C: the pinned placement: arrive, ended. -/
import Derived.Test.YbulkdpsgA2
import Derived.BigQuiet
namespace Go.Proofs.Ybulkdpsg
open Go Go.RowKit Go.Sort Go.Proofs Go.Lib
set_option linter.unusedVariables false
set_option linter.unusedSimpArgs false

theorem Fr.weak' {S T : List Nat} {a b : World} (h : Fr S a b) (hs : ∀ k, k ∈ S → k ∈ T) : Fr T a b := h.mono (fun k _ => hs k)
/-- The tasks' row. -/
structure Tks (own : Nat → Nat) (w : World) (bt n nK : Nat) (d : Array Tk) (key : Nat → Nat) : Prop where
  ob : own bt = 50
  holds : HoldsK encT 5 w bt 0 d
  lt : bt < w.heap.size
  size : d.size = n
  key_ : ∀ i, i < n → d[i]!.key = (key i : Int) ∧ key i < nK
  b : n ≤ 2048
theorem cellT {w : World} {bt i : Nat} {d : Array Tk} (hH : HoldsK encT 5 w bt 0 d) (hi : i < d.size) : w.cell? ⟨bt, i * 5, none⟩ = some (.int .i64 d[i]!.row) ∧ w.cell? ⟨bt, i * 5 + 1, none⟩ = some (.int .i64 d[i]!.job) ∧ w.cell? ⟨bt, i * 5 + 2, none⟩ = some (.int .i64 d[i]!.key) ∧ w.cell? ⟨bt, i * 5 + 3, none⟩ = some (.int .i64 d[i]!.dur) ∧ w.cell? ⟨bt, i * 5 + 4, none⟩ = some (.int .i64 d[i]!.arr) := by
  have z : (flatK encT 5 d).size = d.size * 5 := size_flatK _ _ _
  have hc : ∀ r, r < 5 → w.cell? ⟨bt, i * 5 + r, none⟩ = some ((encT d[i]!)[r]!) := fun r hr => by
    have h0 := (hH (i * 5 + r) (by omega)).1
    rw [get_flatK encT 5 d _ (by omega), show (i * 5 + r) / 5 = i by omega, show (i * 5 + r) % 5 = r by omega, Nat.zero_add] at h0
    exact h0
  exact ⟨hc 0 (by omega), hc 1 (by omega), hc 2 (by omega), hc 3 (by omega), hc 4 (by omega)⟩
theorem Tks.kept {own own' : Nat → Nat} {T : Nat → Prop} {w w' : World} {bt n nK : Nat} {d : Array Tk} {key : Nat → Nat} (h : Tks own w bt n nK d key) (hf : FrT own T w w') (hu : OwnUp w own own') (hT : ¬ T 50) : Tks own' w' bt n nK d key := by
  have hb := hf.block bt h.lt (by rw [h.ob]; exact hT)
  exact ⟨by rw [hu _ h.lt]; exact h.ob, fun j hj => ⟨(World.cell?_of_block hb).trans (h.holds j hj).1, (World.frozen?_of_block hb).trans (h.holds j hj).2⟩, Nat.lt_of_lt_of_le h.lt hf.size, h.size, h.key_, h.b⟩
structure PId where
  bp : Nat
  bo : Nat
  bq : Nat
  qv : Nat → Value
def piF (bt n bw bo nK bq nW : Nat) (i : Nat) : Value := if i = 0 then .slice (some ⟨bt, 0, none⟩) n n else if i = 1 then pn bw 0 else if i = 2 then .slice (some ⟨bo, 0, none⟩) nK nK else .slice (some ⟨bq, 0, none⟩) nW nW
structure Pi (own : Nat → Nat) (w : World) (base bt n bw nK nW : Nat) (J : PId) (owner : Nat → Nat) (q : Nat → List Nat) : Prop where
  op : own J.bp = 51
  oo : own J.bo = 52
  oq_ : own J.bq = 53
  ov : ∀ v, v < nW → ∀ b, (J.qv v).ownBlock = some b → own b = 60 + v
  row : w.rowIs J.bp 122 4 (piF bt n bw J.bo nK J.bq nW)
  ro : w.rowIs J.bo 3 nK (fun k => .int .i64 (owner k : Int))
  rq : w.rowIs J.bq 48 nW J.qv
  oq : ∀ v, v < nW → OwnsQ w base (J.qv v) (q v)
  ol : ∀ k, k < nK → owner k < nW
  ql : ∀ v, v < nW → (q v).length ≤ 2048
  b1 : nK ≤ 5
  b2 : nW ≤ 4
set_option maxRecDepth 100000 in
set_option maxHeartbeats 2000000 in
theorem arrive94 {own : Nat → Nat} {w : World} {base bt n bw nK nW : Nat} {J : PId} {owner : Nat → Nat} {q : Nat → List Nat} {d : Array Tk} {key : Nat → Nat} (h : Pi own w base bt n bw nK nW J owner q) (ht : Tks own w bt n nK d key) (hbase : base ≤ w.heap.size) (t : Nat) (htn : t < n) (hql : (q (owner (key t))).length < 2048) :
    Calls Yba.prog 94 #[pn J.bp 0, .int .i64 (t : Int)] w fun e w' => e = .returned (.tuple #[]) ∧ ∃ own' J', Pi own' w' base bt n bw nK nW J' owner (setL q (owner (key t)) (q (owner (key t)) ++ [t])) ∧ J'.bp = J.bp ∧ OwnUp w own own' ∧ FrT own (fun x => 51 ≤ x ∧ x < 70) w w' := by
  have mixed := mixedYba
  have HH : Hid (Pi own w base bt n bw nK nW J owner q) := h
  have hn2 := ht.b
  have hnK := h.b1
  have hnW := h.b2
  have hkt := (ht.key_ t htn).2
  obtain ⟨_, _, ck, _, _⟩ := cellT ht.holds (show t < d.size by rw [ht.size]; exact htn)
  rw [(ht.key_ t htn).1] at ck
  obtain ⟨k, hk⟩ : ∃ k, k = key t := ⟨_, rfl⟩
  rw [← hk] at ck hkt hql ⊢
  have co : w.cell? ⟨J.bo, k, none⟩ = some (.int .i64 (owner k : Int)) := h.ro.cell hkt
  obtain ⟨v, hv⟩ : ∃ v, v = owner k := ⟨_, rfl⟩
  have hvW : v < nW := by rw [hv]; exact h.ol k hkt
  rw [← hv] at co hql ⊢
  have p0 : w.cell? ⟨J.bp, 0, none⟩ = some (.slice (some ⟨bt, 0, none⟩) n n) := h.row.cell (i := 0) (by omega)
  have p2 : w.cell? ⟨J.bp, 2, none⟩ = some (.slice (some ⟨J.bo, 0, none⟩) nK nK) := h.row.cell (i := 2) (by omega)
  have p3 : w.cell? ⟨J.bp, 3, none⟩ = some (.slice (some ⟨J.bq, 0, none⟩) nW nW) := h.row.cell (i := 3) (by omega)
  have cq : w.cell? ⟨J.bq, v, none⟩ = some (J.qv v) := h.rq.cell hvW
  have fq := h.rq.frozen v
  have zt : (t : Int) < (n : Int) := by omega
  have zk : (k : Int) < (nK : Int) := by omega
  have zv : (v : Int) < (nW : Int) := by omega
  generalize hqv : J.qv v = qv at cq
  have HQV : Hid (J.qv v = qv) := hqv
  clear hqv hk hv
  go_enter Yba.func94, Yba.ntmps94
  go_wp2_with fail
  go_quiet (fail)
  go_wp2_with fail
  obtain ⟨W0, hW0⟩ : ∃ X, X = w.drewN nq := ⟨_, rfl⟩
  rw [← hW0]
  have HW0 : Hid (Fr [] w W0) := by show Fr _ _ _; rw [hW0]; exact Fr.drewN _ _ _
  have hs0 : W0.heap.size = w.heap.size := by rw [hW0]; rfl
  clear hW0 p0 p2 ck co
  have P3 : W0.cell? ⟨J.bp, 3, none⟩ = some (.slice (some ⟨J.bq, 0, none⟩) nW nW) := HW0.out.cell p3 (by simp)
  have CQ : W0.cell? ⟨J.bq, v, none⟩ = some qv := HW0.out.cell cq (by simp)
  have HO0 : Hid (OwnsQ W0 base qv (q v)) := by have := (HH.out.oq v hvW).fr HW0.out (by simp); rw [HQV.out] at this; exact this
  obtain ⟨W, hW⟩ : ∃ X, (W0.alloc (.cells #[.int .i64 (t : Int)] 3)).drew = X := ⟨_, rfl⟩
  have HFW : Hid (Fr [] W0 W) := by show Fr _ _ _; rw [← hW]; exact (Fr.alloc _ _ _).trans (Fr.drewN _ _ 1)
  have HOW : Hid (OwnsQ W base qv (q v)) := HO0.out.fr HFW.out (by simp)
  have hWs : Hid (W.heap.size = w.heap.size + 1) := by show _ = _; rw [← hW]; simp [hs0]
  have HCW : Hid (W.cell? ⟨w.heap.size, 0, none⟩ = some (.int .i64 (t : Int))) := by
    show _ = _
    have R := World.rowIs_alloc W0 #[.int .i64 (t : Int)] 3 (fun _ => .int .i64 (t : Int)) (fun i hi => by rcases (show i = 0 by simp at hi; omega) with rfl; rfl)
    rw [hs0] at R
    rw [← hW]; exact R.cell (i := 0) (by simp)
  have P3W : W.cell? ⟨J.bp, 3, none⟩ = some (.slice (some ⟨J.bq, 0, none⟩) nW nW) := HFW.out.cell P3 (by simp)
  have CQW : W.cell? ⟨J.bq, v, none⟩ = some qv := HFW.out.cell CQ (by simp)
  have HB : Hid (base ≤ W.heap.size) := by have := hWs.out; show base ≤ W.heap.size; omega
  have RQW : Hid (W.rowIs J.bq 48 nW J.qv) := HFW.out.row (HW0.out.row HH.out.rq (by simp)) (by simp)
  have RPW : Hid (W.rowIs J.bp 122 4 (piF bt n bw J.bo nK J.bq nW)) := HFW.out.row (HW0.out.row HH.out.row (by simp)) (by simp)
  have hnb : Hid (∀ b, qv.ownBlock = some b → b ≠ J.bq ∧ b ≠ J.bp) := fun b hb => by
    have := HH.out.ov v hvW b (by rw [HQV.out]; exact hb)
    exact ⟨fun e => by rw [e, HH.out.oq_] at this; omega, fun e => by rw [e, HH.out.op] at this; omega⟩
  clear h ht cq fq p3
  go_region_law (refine step_append_q W rfl (.tmp 30) (.tmp 32) rfl base qv (q v) (by simp [Act.eval, Act.put]) HOW.out HB.out (by omega) t w.heap.size (by simp [Act.eval, Act.put]) HCW.out (w.heap.size + 1) hWs.out ?_; intro g off cap w3 hown hgrow hat hlt; have FR3 : Hid (Fr qv.ownBlock.toList W w3) := ⟨hgrow.os, hgrow.tape, hgrow.output, hgrow.size, fun k hk hn => hgrow.block k hk (fun e => hn (by simp [← e]))⟩; have RQ3 : Hid (w3.rowIs J.bq 48 nW J.qv) := FR3.out.row RQW.out (fun hm => by simp at hm; exact (hnb.out _ hm).1 rfl); have P33 : w3.cell? ⟨J.bp, 3, none⟩ = some (.slice (some ⟨J.bq, 0, none⟩) nW nW) := FR3.out.cell P3W (fun hm => by simp at hm; exact (hnb.out _ hm).2 rfl); have CQ3 : w3.cell? ⟨J.bq, v, none⟩ = some qv := FR3.out.cell CQW (fun hm => by simp at hm; exact (hnb.out _ hm).1 rfl); have FQ3 := RQ3.out.frozen v; have HF : Hid (OwnsQ w3 base (.slice (some ⟨g, off, none⟩) ((q v).length + 1) cap) (q v ++ [t]) ∧ (qv.ownBlock = some g ∨ g = w.heap.size + 1)) := ⟨hown, hat⟩; clear hown hgrow hat hlt)
  all_goals
    go_wp2_with fail
    go_end0
    have h := HH.out
    obtain ⟨hown, hat⟩ := HF.out
    have hlq : ∀ u, u < nW → ∀ b, (J.qv u).ownBlock = some b → b < w.heap.size := fun u hu b hb => (h.oq u hu).lt b hb
    have gbq : g ≠ J.bq := by
      rcases hat with e | e
      · exact (hnb.out g e).1
      · have := h.rq.lt; omega
    let own' : Nat → Nat := fun b => if b < w.heap.size then own b else 60 + v
    have hu : OwnUp w own own' := fun b hb => if_pos hb
    have og : own' g = 60 + v := by
      show (if _ then _ else _) = _
      rcases hat with e | e
      · rw [← HQV.out] at e; rw [if_pos (hlq v hvW g e)]; exact h.ov v hvW g e
      · rw [if_neg (by omega)]
    have hFr : Fr (J.bq :: qv.ownBlock.toList) w (w3.setCell ⟨J.bq, v, none⟩ (.slice (some ⟨g, off, none⟩) ((q v).length + 1) cap)) := (((HW0.out.weak' (by simp)).trans (HFW.out.weak' (by simp))).trans (FR3.out.weak' (by intro k hk; exact List.mem_cons_of_mem _ hk))).trans (Fr.setCell _ _ _ (by simp))
    have hFT : FrT own (fun x => x = 53 ∨ x = 60 + v) w (w3.setCell ⟨J.bq, v, none⟩ (.slice (some ⟨g, off, none⟩) ((q v).length + 1) cap)) := FrT.of hFr (fun b _ hb => by
      rcases List.mem_cons.1 hb with rfl | hb
      · exact Or.inl h.oq_
      · simp at hb; rw [← HQV.out] at hb; exact Or.inr (h.ov v hvW b hb))
    refine ⟨rfl, own', { J with qv := setL J.qv v (.slice (some ⟨g, off, none⟩) ((q v).length + 1) cap) }, ⟨by rw [hu _ h.row.lt]; exact h.op, by rw [hu _ h.ro.lt]; exact h.oo, by rw [hu _ h.rq.lt]; exact h.oq_, fun u hu' b hb => ?_, hFT.row h.row (by rw [h.op]; omega), hFT.row h.ro (by rw [h.oo]; omega), ?_, fun u hu' => ?_, h.ol, fun u hu' => ?_, h.b1, h.b2⟩, rfl, hu, hFT.mono (fun x hx => by omega)⟩
    · have hb' : (setL J.qv v (.slice (some ⟨g, off, none⟩) ((q v).length + 1) cap) u).ownBlock = some b := hb
      by_cases e : u = v
      · subst e; rw [setL_same] at hb'; simp [Value.ownBlock] at hb'; subst hb'; exact og
      · rw [setL_other _ _ e] at hb'; rw [hu _ (hlq u hu' b hb')]; exact h.ov u hu' b hb'
    · exact (RQ3.out.set v _).congr fun j _ => by unfold setL; rfl
    · show OwnsQ _ base (setL J.qv v _ u) (setL q v _ u)
      by_cases e : u = v
      · subst e
        rw [setL_same, setL_same]
        exact hown.fr (S := [J.bq]) (Fr.setCell _ _ _ (by simp)) (fun b hb => by simp [Value.ownBlock] at hb; subst hb; simp [gbq])
      · rw [setL_other _ _ e, setL_other _ _ e]
        exact (h.oq u hu').frT hFT (fun b hb => by rw [h.ov u hu' b hb]; omega)
    · show (setL q v _ u).length ≤ 2048
      by_cases e : u = v
      · subst e; rw [setL_same]; simp; omega
      · rw [setL_other _ _ e]; exact h.ql u hu'
theorem ended95 (bp : Nat) (t : Int) (w : World) : Calls Yba.prog 95 #[pn bp 0, .int .i64 t] w fun e w' => e = .returned (.tuple #[]) ∧ w = w' := by
  go_enter Yba.func95, Yba.ntmps95
  go_wp2
  go_end0
  exact ⟨rfl, rfl⟩
end Go.Proofs.Ybulkdpsg

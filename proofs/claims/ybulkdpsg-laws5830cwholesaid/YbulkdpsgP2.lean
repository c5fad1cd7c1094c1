/- S5830C: the pinned placement: next. -/
import Derived.Test.YbulkdpsgP1
namespace Go.Proofs.Ybulkdpsg
open Go Go.RowKit Go.Sort Go.Proofs Go.Lib
set_option linter.unusedVariables false
set_option linter.unusedSimpArgs false

set_option maxRecDepth 100000 in
set_option maxHeartbeats 2000000 in
theorem next96 {own : Nat → Nat} {w : World} {base bt n nK nW sz lm : Nat} {pen : Int} {I : Ids} {S : WSt} {J : PId} {owner : Nat → Nat} {q : Nat → List Nat} (h : Pi own w base bt n I.bw nK nW J owner q) (hw : WS own w base nW nK sz lm pen I S) (now : Int) :
    Calls Yba.prog 96 #[pn J.bp 0, .int .i64 now] w fun e w' =>
      ((∀ v, v < nW → q v = [] ∨ S.free v = 0) ∧ e = .returned (.tuple #[.int .i64 0, .int .i64 0, .bool false]) ∧ w = w') ∨
      ∃ v t r, v < nW ∧ q v = t :: r ∧ S.free v ≠ 0 ∧ (∀ u, u < v → q u = [] ∨ S.free u = 0) ∧ e = .returned (.tuple #[.int .i64 (t : Int), .int .i64 (v : Int), .bool true]) ∧ ∃ J', Pi own w' base bt n I.bw nK nW J' owner (setL q v r) ∧ J'.bp = J.bp ∧ FrT own (fun x => x = 53) w w' := by
  have mixed := mixedYba
  have HH : Hid (Pi own w base bt n I.bw nK nW J owner q) := h
  have hnW := h.b2
  have p1 : w.cell? ⟨J.bp, 1, none⟩ = some (pn I.bw 0) := h.row.cell (i := 1) (by omega)
  have p3 : w.cell? ⟨J.bp, 3, none⟩ = some (.slice (some ⟨J.bq, 0, none⟩) nW nW) := h.row.cell (i := 3) (by omega)
  have c0 : w.cell? ⟨I.bw, 0, none⟩ = some (.slice (some ⟨I.bf, 0, none⟩) nW nW) := (ws_row hw).1
  have HC : Hid (∀ v, v < nW → w.cell? ⟨J.bq, v, none⟩ = some (J.qv v) ∧ w.cell? ⟨I.bf, v, none⟩ = some (.int .i64 (S.free v : Int))) := fun v hv => ⟨h.rq.cell hv, hw.rf.cell hv⟩
  clear h hw
  go_enter Yba.func96, Yba.ntmps96
  go_wp2
  go_loopw [14] (fun iv wr => ∃ j : Nat, iv = .int .i64 (j : Int) ∧ j ≤ nW ∧ w = wr ∧ Hid (∀ u, u < j → q u = [] ∨ S.free u = 0)) (fun iv _ => nW - (intOf iv).toNat)
  case atStart => exact ⟨0, rfl, Nat.zero_le _, rfl, fun u hu => by omega⟩
  case round =>
    obtain ⟨v, rfl, hj, rfl, HN⟩ := hrel
    by_cases hlt : v < nW
    · obtain ⟨cq, cf⟩ := HC.out v hlt
      have zv : (v : Int) < (nW : Int) := by omega
      have HOQ : Hid (OwnsQ w base (J.qv v) (q v)) := HH.out.oq v hlt
      have HQL : Hid ((q v).length ≤ 2048) := HH.out.ql v hlt
      cases hq : q v with
      | nil =>
        have HQ : Hid (q v = []) := hq
        have hform : ∃ ao cap, J.qv v = .slice ao 0 cap := by
          rcases HOQ.out with ⟨h1, _⟩ | ⟨g, off, cap, cur, h1, _⟩
          · exact ⟨none, 0, h1⟩
          · rw [hq] at h1; exact ⟨_, cap, h1⟩
        obtain ⟨ao, cap, hform⟩ := hform
        rw [hform] at cq
        clear hq hform cf HOQ
        go_wp2
        go_roundw
        case rel =>
          refine ⟨v + 1, by go_num, by omega, by first | rfl | trivial, fun u hu => ?_⟩
          by_cases e : u = v
          · subst e; exact Or.inl HQ.out
          · exact HN.out u (by omega)
        case measure => simp [intOf]; omega
      | cons t r =>
        have HQ : Hid (q v = t :: r) := hq
        obtain ⟨g, off, cap, hform, hcell⟩ := HOQ.out.cell (by rw [hq]; simp)
        have ct := hcell 0 (by rw [hq]; simp)
        simp only [hq, List.getElem_cons_zero, Nat.add_zero] at ct
        have hrl : r.length < 2048 := by have := HQL.out; rw [hq] at this; simp at this; omega
        have HOQ2 : Hid (OwnsQ w base (.slice (some ⟨g, off, none⟩) (r.length + 1) cap) (t :: r)) := by
          show OwnsQ _ _ _ _
          have := HOQ.out; rw [hform, hq] at this; simpa using this
        have hcap := HOQ2.out.tail.2.2
        have HFM : Hid (J.qv v = .slice (some ⟨g, off, none⟩) (r.length + 1) cap) := by show _ = _; rw [hform, hq]; rfl
        rw [hform, hq] at cq
        simp only [List.length_cons] at cq
        clear hq hform hcell HOQ
        by_cases hf : S.free v = 0
        · have HF : Hid (S.free v = 0) := hf
          have hd : decide ((S.free v : Int) > 0) = false := decide_eq_false (by omega)
          generalize (S.free v : Int) = x at cf hd
          clear hf
          go_wp2
          go_roundw
          case rel =>
            refine ⟨v + 1, by go_num, by omega, by first | rfl | trivial, fun u hu => ?_⟩
            by_cases e : u = v
            · subst e; exact Or.inr HF.out
            · exact HN.out u (by omega)
          case measure => simp [intOf]; omega
        · have HF : Hid (S.free v ≠ 0) := hf
          have hd : decide ((S.free v : Int) > 0) = true := decide_eq_true (by omega)
          have hlen : ((r.length + 1 : Nat) : Int) > 0 := by omega
          generalize (S.free v : Int) = x at cf hd
          clear hf
          by_cases hc1 : cap = 1
          · subst hc1
            have hr0 : r = [] := by cases r with
              | nil => rfl
              | cons a b => simp at hcap
            have HR0 : Hid (r = []) := hr0
            have hrl0 : r.length = 0 := by rw [hr0]; rfl
            clear hr0
            have HOT : Hid (OwnsQ w base (.slice (some ⟨g, off, none⟩) 0 0) r) := (by
              show OwnsQ _ _ _ _
              have h0 : r = [] := HR0.out
              rw [h0]
              rcases HOQ2.out with ⟨h1, _⟩ | ⟨g', off', cap', cur, hv, hb, hg, hc, hm, hs, hcur⟩
              · cases h1
              · simp only [Value.slice.injEq, Option.some.injEq, Addr.mk.injEq, and_true, List.length_cons, true_and] at hv
                obtain ⟨⟨rfl, rfl⟩, rfl⟩ := hv
                exact Or.inr ⟨g, off, 0, cur, rfl, hb, hg, by simp, by simp [maxLen], by omega, fun i hi => by simp at hi⟩)
            have gbq : g ≠ J.bq := fun e => by
              have := HH.out.ov v hlt g (by rw [HFM.out]; rfl)
              rw [e, HH.out.oq_] at this; omega
            have fqv := HH.out.rq.frozen v
            obtain ⟨W1, hW1⟩ : ∃ X, w.setCell ⟨J.bq, v, none⟩ (.slice (some ⟨g, off, none⟩) 0 0) = X := ⟨_, rfl⟩
            have ct1 : W1.cell? ⟨g, off, none⟩ = some (.int .i64 (t : Int)) := by rw [← hW1, World.cell?_setCell_other _ _ _ _ (by simp [Ne.symm gbq])]; exact ct
            have HW1 : Hid (w.setCell ⟨J.bq, v, none⟩ (.slice (some ⟨g, off, none⟩) 0 0) = W1) := hW1
            go_wp2_with fail
            go_big_region_o
            all_goals go_wp2_with fail
            all_goals
              go_ret3
              have h := HH.out
              have hW := HW1.out
              refine Or.inr ⟨v, t, r, hlt, HQ.out, HF.out, HN.out, rfl, { J with qv := setL J.qv v (.slice (some ⟨g, off, none⟩) 0 0) }, ?_, rfl, ?_⟩
              · have hFT : FrT own (fun x => x = 53) w W1.drew := by
                  have : FrT own (fun x => x = 53) w W1 := by rw [← hW]; exact FrT.of (S := [J.bq]) (Fr.setCell w _ _ (by simp)) (fun b _ hb => by simp at hb; subst hb; exact h.oq_)
                  exact ⟨this.os, this.tape, this.output, this.size, this.block⟩
                refine ⟨h.op, h.oo, h.oq_, fun u hu b hb => ?_, hFT.row h.row (by rw [h.op]; omega), hFT.row h.ro (by rw [h.oo]; omega), ?_, fun u hu => ?_, h.ol, fun u hu => ?_, h.b1, h.b2⟩
                · have hb' : (setL J.qv v (.slice (some ⟨g, off, none⟩) 0 0) u).ownBlock = some b := hb
                  by_cases e : u = v
                  · subst e; rw [setL_same] at hb'; simp [Value.ownBlock] at hb'; subst hb'; exact h.ov u hu g (by rw [HFM.out]; rfl)
                  · rw [setL_other _ _ e] at hb'; exact h.ov u hu b hb'
                · have := (h.rq.set v (.slice (some ⟨g, off, none⟩) 0 0)).congr (g := setL J.qv v (.slice (some ⟨g, off, none⟩) 0 0)) fun j _ => by unfold setL; rfl
                  rw [hW] at this; exact this
                · show OwnsQ _ base (setL J.qv v (.slice (some ⟨g, off, none⟩) 0 0) u) (setL q v r u)
                  by_cases e : u = v
                  · subst e
                    rw [setL_same, setL_same]
                    exact HOT.out.frT hFT (fun b hb => by simp [Value.ownBlock] at hb; subst hb; rw [h.ov u hu g (by rw [HFM.out]; rfl)]; omega)
                  · rw [setL_other _ _ e, setL_other _ _ e]
                    exact (h.oq u hu).frT hFT (fun b hb => by rw [h.ov u hu b hb]; omega)
                · show (setL q v r u).length ≤ 2048
                  by_cases e : u = v
                  · subst e; rw [setL_same]; omega
                  · rw [setL_other _ _ e]; exact h.ql u hu
              · have : FrT own (fun x => x = 53) w W1 := by rw [← hW]; exact FrT.of (S := [J.bq]) (Fr.setCell w _ _ (by simp)) (fun b _ hb => by simp at hb; subst hb; exact h.oq_)
                exact ⟨this.os, this.tape, this.output, this.size, this.block⟩
          · have hc2 : (cap == 1) = false := beq_false_of_ne hc1
            have hcc : 1 < cap := by omega
            have HOT : Hid (OwnsQ w base (.slice (some ⟨g, off + 1, none⟩) r.length (cap - 1)) r) := HOQ2.out.tail.1
            have gbq : g ≠ J.bq := fun e => by
              have := HH.out.ov v hlt g (by rw [HFM.out]; rfl)
              rw [e, HH.out.oq_] at this; omega
            have fqv := HH.out.rq.frozen v
            obtain ⟨W1, hW1⟩ : ∃ X, w.setCell ⟨J.bq, v, none⟩ (.slice (some ⟨g, off + 1, none⟩) r.length (cap - 1)) = X := ⟨_, rfl⟩
            have ct1 : W1.cell? ⟨g, off, none⟩ = some (.int .i64 (t : Int)) := by rw [← hW1, World.cell?_setCell_other _ _ _ _ (by simp [Ne.symm gbq])]; exact ct
            have HW1 : Hid (w.setCell ⟨J.bq, v, none⟩ (.slice (some ⟨g, off + 1, none⟩) r.length (cap - 1)) = W1) := hW1
            go_wp2_with fail
            go_big_region_o
            all_goals go_wp2_with fail
            all_goals
              go_ret3
              have h := HH.out
              have hW := HW1.out
              refine Or.inr ⟨v, t, r, hlt, HQ.out, HF.out, HN.out, rfl, { J with qv := setL J.qv v (.slice (some ⟨g, off + 1, none⟩) r.length (cap - 1)) }, ?_, rfl, ?_⟩
              · have hFT : FrT own (fun x => x = 53) w W1.drew := by
                  have : FrT own (fun x => x = 53) w W1 := by rw [← hW]; exact FrT.of (S := [J.bq]) (Fr.setCell w _ _ (by simp)) (fun b _ hb => by simp at hb; subst hb; exact h.oq_)
                  exact ⟨this.os, this.tape, this.output, this.size, this.block⟩
                refine ⟨h.op, h.oo, h.oq_, fun u hu b hb => ?_, hFT.row h.row (by rw [h.op]; omega), hFT.row h.ro (by rw [h.oo]; omega), ?_, fun u hu => ?_, h.ol, fun u hu => ?_, h.b1, h.b2⟩
                · have hb' : (setL J.qv v (.slice (some ⟨g, off + 1, none⟩) r.length (cap - 1)) u).ownBlock = some b := hb
                  by_cases e : u = v
                  · subst e; rw [setL_same] at hb'; simp [Value.ownBlock] at hb'; subst hb'; exact h.ov u hu g (by rw [HFM.out]; rfl)
                  · rw [setL_other _ _ e] at hb'; exact h.ov u hu b hb'
                · have := (h.rq.set v (.slice (some ⟨g, off + 1, none⟩) r.length (cap - 1))).congr (g := setL J.qv v (.slice (some ⟨g, off + 1, none⟩) r.length (cap - 1))) fun j _ => by unfold setL; rfl
                  rw [hW] at this; exact this
                · show OwnsQ _ base (setL J.qv v (.slice (some ⟨g, off + 1, none⟩) r.length (cap - 1)) u) (setL q v r u)
                  by_cases e : u = v
                  · subst e
                    rw [setL_same, setL_same]
                    exact HOT.out.frT hFT (fun b hb => by simp [Value.ownBlock] at hb; subst hb; rw [h.ov u hu g (by rw [HFM.out]; rfl)]; omega)
                  · rw [setL_other _ _ e, setL_other _ _ e]
                    exact (h.oq u hu).frT hFT (fun b hb => by rw [h.ov u hu b hb]; omega)
                · show (setL q v r u).length ≤ 2048
                  by_cases e : u = v
                  · subst e; rw [setL_same]; omega
                  · rw [setL_other _ _ e]; exact h.ql u hu
              · have : FrT own (fun x => x = 53) w W1 := by rw [← hW]; exact FrT.of (S := [J.bq]) (Fr.setCell w _ _ (by simp)) (fun b _ hb => by simp at hb; subst hb; exact h.oq_)
                exact ⟨this.os, this.tape, this.output, this.size, this.block⟩
    · obtain rfl : v = nW := by omega
      go_wp2
      go_ret3
      exact Or.inl ⟨HN.out, rfl, rfl⟩
end Go.Proofs.Ybulkdpsg

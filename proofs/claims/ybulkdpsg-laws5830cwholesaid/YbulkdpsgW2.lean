/- S5830C: (*workers).end; slices.Index. -/
import Derived.Test.YbulkdpsgW1
namespace Go.Proofs.Ybulkdpsg
open Go Go.RowKit Go.Proofs Go.Lib
set_option linter.unusedVariables false
set_option linter.unusedSimpArgs false

theorem WS.upd {own : Nat → Nat} {w w' : World} {base nW nK sz lm : Nat} {pen : Int} {I : Ids} {S : WSt} (h : WS own w base nW nK sz lm pen I S) (free' : Nat → Nat) (hfr : Fr [I.bf, I.bw] w w') (r1 : w'.rowIs I.bw 111 6 (wsF I nW nK sz pen (opn free' nW))) (r2 : w'.rowIs I.bf 3 nW (fun v => .int .i64 (free' v : Int))) (hb4 : ∀ v, v < nW → free' v ≤ 3) : WS own w' base nW nK sz lm pen I { S with free := free' } := by
  have hf : FrT own (fun x => x = 1 ∨ x = 2) w w' := FrT.of hfr (fun k _ hk => by
    simp at hk
    rcases hk with rfl | rfl
    · exact Or.inr h.of_
    · exact Or.inl h.ow)
  obtain ⟨cm, hrm, hl⟩ := h.rm
  have hb2 := h.b2
  have hb3 := h.b3
  have lel : ∀ v, v < nW → ∀ e ∈ S.els v, e.1 < w.heap.size := fun v hv e he => by
    have := (hl v hv).1
    unfold ListOk at this
    split at this
    · exact chain_lt _ _ this.ch e he
    · rw [this.2] at he; simp at he
  have hrm' : w'.rowIs I.bm 120 (nW * 6) cm := hf.row hrm (by rw [h.om]; omega)
  refine ⟨h.ow, h.of_, h.om, h.oh, h.omp, h.oel, h.ohv, r1, r2, ⟨cm, hrm', fun v hv => ⟨?_, (hl v hv).2⟩⟩,
    fun v hv => hf.mapf (h.mapf v hv) (by rw [h.omp v hv]; omega), hf.row h.rh (by rw [h.oh]; omega), fun k hk => hf.own (h.ho k hk) (fun b hb => by rw [h.ohv k hk b hb]; omega),
    h.ap, h.kn, h.kl, h.ln, h.hs, h.b1, h.b2, h.b3, hb4⟩
  have hlv := (hl v hv).1
  unfold ListOk at hlv ⊢
  split at hlv
  · rename_i hi
    rw [if_pos hi]
    exact ⟨hrm', hlv.fit, hlv.nx, hlv.pv, hlv.ln, chain_of_rows _ _ (fun e he => hf.block _ (lel v hv e he) (by rw [h.oel v hv e he]; omega)) hlv.ch⟩
  · rename_i hi
    rw [if_neg hi]
    exact ⟨⟨hrm', hlv.1.fit, hlv.1.nx⟩, hlv.2⟩
def setN (f : Nat → Nat) (v x : Nat) : Nat → Nat := fun u => if u = v then x else f u
theorem six {P : Nat → Prop} (h0 : P 0) (h1 : P 1) (h2 : P 2) (h3 : P 3) (h4 : P 4) (h5 : P 5) : ∀ i, i < 6 → P i := fun i hi => by
  rcases (show i = 0 ∨ i = 1 ∨ i = 2 ∨ i = 3 ∨ i = 4 ∨ i = 5 by omega) with rfl | rfl | rfl | rfl | rfl | rfl <;> assumption
theorem ws_row {own : Nat → Nat} {w : World} {base nW nK sz lm : Nat} {pen : Int} {I : Ids} {S : WSt} (h : WS own w base nW nK sz lm pen I S) :
    w.cell? ⟨I.bw, 0, none⟩ = some (.slice (some ⟨I.bf, 0, none⟩) nW nW) ∧ w.cell? ⟨I.bw, 1, none⟩ = some (.int .i64 (opn S.free nW : Int)) ∧ w.cell? ⟨I.bw, 2, none⟩ = some (.slice (some ⟨I.bm, 0, none⟩) nW nW) ∧ w.cell? ⟨I.bw, 3, none⟩ = some (.int .i64 (sz : Int)) ∧ w.cell? ⟨I.bw, 4, none⟩ = some (.slice (some ⟨I.bh, 0, none⟩) nK nK) ∧ w.cell? ⟨I.bw, 5, none⟩ = some (.int .i64 pen) :=
  ⟨h.rw_.cell (i := 0) (by omega), h.rw_.cell (i := 1) (by omega), h.rw_.cell (i := 2) (by omega), h.rw_.cell (i := 3) (by omega), h.rw_.cell (i := 4) (by omega), h.rw_.cell (i := 5) (by omega)⟩

set_option maxRecDepth 100000 in
set_option maxHeartbeats 1000000 in
theorem end37 {own : Nat → Nat} {w : World} {base nW nK sz lm : Nat} {pen : Int} {I : Ids} {S : WSt} (h : WS own w base nW nK sz lm pen I S) (v : Nat) (hv : v < nW) (hfr : S.free v ≤ 2) :
    Calls Yba.prog 37 #[pn I.bw 0, .int .i64 (v : Int)] w fun e w' => e = .returned (.tuple #[]) ∧ WS own w' base nW nK sz lm pen I { S with free := setN S.free v (S.free v + 1) } ∧ Fr [I.bf, I.bw] w w' := by
  have HH : Hid (WS own w base nW nK sz lm pen I S) := h
  have hnW : nW ≤ 4 := h.b2.2
  have c0 : w.cell? ⟨I.bw, 0, none⟩ = some (.slice (some ⟨I.bf, 0, none⟩) nW nW) := (ws_row h).1
  have c1 := (ws_row h).2.1
  have f1 := h.rw_.frozen 1
  have cv := h.rf.cell hv
  have fv := h.rf.frozen v
  have nwf : I.bw ≠ I.bf := fun e => by have h1 := h.ow; have h2 := h.of_; rw [e] at h1; omega
  have nfw : I.bf ≠ I.bw := Ne.symm nwf
  have hopn := opn_upd S.free v (S.free v + 1) nW hv
  have hopl := opn_le S.free nW
  obtain ⟨W1, hW1⟩ : ∃ W, w.setCell ⟨I.bf, v, none⟩ (.int .i64 ((S.free v : Int) + 1)) = W := ⟨_, rfl⟩
  have d0 : W1.cell? ⟨I.bw, 0, none⟩ = some (.slice (some ⟨I.bf, 0, none⟩) nW nW) := by rw [← hW1, World.cell?_setCell_other _ _ _ _ (by simp [nfw])]; exact c0
  have d1 : W1.cell? ⟨I.bw, 1, none⟩ = some (.int .i64 (opn S.free nW : Int)) := by rw [← hW1, World.cell?_setCell_other _ _ _ _ (by simp [nfw])]; exact c1
  have dv : W1.cell? ⟨I.bf, v, none⟩ = some (.int .i64 ((S.free v : Int) + 1)) := by rw [← hW1]; exact World.cell?_setCell_same _ _ _ cv
  have g1 : W1.frozen? ⟨I.bw, 1, none⟩ = false := by rw [← hW1, World.frozen?_setCell]; exact f1
  have rf1 : Hid (W1.rowIs I.bf 3 nW (fun u => .int .i64 (setN S.free v (S.free v + 1) u : Int))) := by
    show W1.rowIs _ _ _ _
    rw [← hW1]; refine (h.rf.set v _).congr fun u hu => ?_
    unfold setN; by_cases e : u = v
    · rw [if_pos e, if_pos e]; simp
    · rw [if_neg e, if_neg e]
  have rw1 : Hid (W1.rowIs I.bw 111 6 (wsF I nW nK sz pen (opn S.free nW))) := by show W1.rowIs _ _ _ _; rw [← hW1]; exact h.rw_.setOther nwf _
  have fr1 : Hid (Fr [I.bf, I.bw] w W1) := by show Fr _ _ _; rw [← hW1]; exact Fr.setCell w _ _ (by simp)
  have hb4 : Hid (∀ u, u < nW → setN S.free v (S.free v + 1) u ≤ 3) := fun u hu => by
    unfold setN; split
    · omega
    · exact h.b4 u hu
  by_cases hz : S.free v = 0
  · have he : (((S.free v : Int) + 1) == 1) = true := by rw [hz]; rfl
    have HO : Hid (opn (setN S.free v (S.free v + 1)) nW = opn S.free nW + 1) := by
      show opn _ _ = _
      unfold setN; rw [if_pos hz, if_neg (by omega)] at hopn; omega
    clear h hopn hz
    go_enter Yba.func37, Yba.ntmps37
    go_wp2
    go_end0
    refine ⟨rfl, HH.out.upd _ (fr1.out.trans (Fr.setCell _ _ _ (by simp))) ?_ (rf1.out.setOther nfw _) hb4.out, fr1.out.trans (Fr.setCell _ _ _ (by simp))⟩
    refine (rw1.out.set 1 _).congr (six (by simp [wsF]) ?_ (by simp [wsF]) (by simp [wsF]) (by simp [wsF]) (by simp [wsF]))
    simp [wsF, HO.out]
  · have he : (((S.free v : Int) + 1) == 1) = false := beq_false_of_ne (by omega)
    have HO : Hid (opn (setN S.free v (S.free v + 1)) nW = opn S.free nW) := by
      show opn _ _ = _
      unfold setN; rw [if_neg hz, if_neg (by omega)] at hopn; omega
    clear h hopn
    go_enter Yba.func37, Yba.ntmps37
    go_wp2
    go_end0
    refine ⟨rfl, HH.out.upd _ fr1.out ?_ rf1.out hb4.out, fr1.out⟩
    rw [HO.out]; exact rw1.out
end Go.Proofs.Ybulkdpsg

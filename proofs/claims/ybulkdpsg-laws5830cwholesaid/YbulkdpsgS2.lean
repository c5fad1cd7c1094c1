/- S5830C: the sticky placement: ended; what stays as it was. -/
import Derived.Test.YbulkdpsgS1
import Derived.Deep.RegionWith
namespace Go.Proofs.Ybulkdpsg
open Go Go.RowKit Go.Sort Go.Proofs Go.Lib
set_option linter.unusedVariables false
set_option linter.unusedSimpArgs false

theorem Ru.kept {own own' : Nat → Nat} {T : Nat → Prop} {w w' : World} {base br : Nat} {vw vi : Value} {R : RuSt} (h : Ru own w base br vw vi R) (hf : FrT own T w w') (hu : OwnUp w own own') (hT : ∀ x, T x → x ≠ 41 ∧ x ≠ 42 ∧ x ≠ 43) : Ru own' w' base br vw vi R :=
  ⟨by rw [hu _ h.row.lt]; exact h.ob, fun b hb => by rw [hu _ (h.ow.lt b hb).2]; exact h.ow_ b hb, fun b hb => by rw [hu _ (h.oi.lt b hb).2]; exact h.oi_ b hb, hf.row h.row (by rw [h.ob]; exact fun x => (hT _ x).1 rfl), hf.own h.ow (fun b hb => by rw [h.ow_ b hb]; exact fun x => (hT _ x).2.1 rfl), hf.own h.oi (fun b hb => by rw [h.oi_ b hb]; exact fun x => (hT _ x).2.2 rfl), h.b1, h.b2, h.b3⟩
theorem frT_drewN (own : Nat → Nat) (T : Nat → Prop) (w : World) (q : Nat) : FrT own T w (w.drewN q) := ⟨rfl, rfl, rfl, Nat.le_refl _, fun _ _ _ => rfl⟩
theorem St.kept {own own' : Nat → Nat} {T : Nat → Prop} {w w' : World} {base bt n bw br nJ nK : Nat} {K : SId} {B : SSt} (h : St own w base bt n bw br nJ nK K B) (hf : FrT own T w w') (hu : OwnUp w own own') (hT : ∀ x, T x → ¬ (70 ≤ x ∧ x < 200)) : St own' w' base bt n bw br nJ nK K B := by
  have nT : ∀ x, 70 ≤ x → x < 200 → ¬ T x := fun x h1 h2 ht => hT x ht ⟨h1, h2⟩
  have b1 := h.b1
  have b2 := h.b2
  exact ⟨by rw [hu _ h.rs.lt]; exact h.os, by rw [hu _ h.rj.lt]; exact h.oj, by rw [hu _ h.rt.lt]; exact h.ot, fun j hj b hb => by rw [hu _ ((h.qw j hj).lt b hb)]; exact h.ow j hj b hb, fun j hj => by rw [hu _ (h.mp j hj).lt]; exact h.om j hj, fun j hj k hk hne b hb => by rw [hu _ ((h.qk j hj k hk hne).lt b hb)]; exact h.ok j hj k hk hne b hb,
    hf.row h.rs (by rw [h.os]; exact nT _ (by omega) (by omega)), hf.row h.rj (by rw [h.oj]; exact nT _ (by omega) (by omega)), hf.row h.rt (by rw [h.ot]; exact nT _ (by omega) (by omega)), fun j hj => (h.qw j hj).frT hf (fun b hb => by rw [h.ow j hj b hb]; exact nT _ (by omega) (by omega)), fun j hj => hf.mapf (h.mp j hj) (by rw [h.om j hj]; exact nT _ (by omega) (by omega)), fun j hj k hk hne => (h.qk j hj k hk hne).frT hf (fun b hb => by rw [h.ok j hj k hk hne b hb]; exact nT _ (by omega) (by omega)), h.kd, h.lw, h.lk, h.wn, h.kn, h.b1, h.b2, h.b3⟩
set_option maxRecDepth 100000 in
set_option maxHeartbeats 2000000 in
theorem ended98 {own : Nat → Nat} {w : World} {base bt n bw br nJ nK : Nat} {K : SId} {B : SSt} {d : Array Tk} {key : Nat → Nat} {vw vi : Value} {R : RuSt} (h : St own w base bt n bw br nJ nK K B) (ht : Tks own w bt n nK d key) (hr : Ru own w base br vw vi R) (t j : Nat) (htn : t < n) (hjob : d[t]!.job = (j : Int)) (hj : j < R.nJ) (hb : 0 < R.inf j ∧ R.dones < 3000) :
    Calls Yba.prog 98 #[pn K.bs 0, .int .i64 (t : Int)] w fun e w' => e = .returned (.tuple #[]) ∧ Ru own w' base br vw vi { R with inf := setN R.inf j (R.inf j - 1), dones := R.dones + 1 } ∧ FrT own (fun x => x = 41 ∨ x = 43) w w' := by
  have mixed := mixedYba
  have hn2 := ht.b
  have s0 : w.cell? ⟨K.bs, 0, none⟩ = some (.iface 58 (pn br 0)) := h.rs.cell (i := 0) (by omega)
  have s1 : w.cell? ⟨K.bs, 1, none⟩ = some (.slice (some ⟨bt, 0, none⟩) n n) := h.rs.cell (i := 1) (by omega)
  obtain ⟨_, cj, _, _, _⟩ := cellT ht.holds (show t < d.size by rw [ht.size]; exact htn)
  rw [hjob] at cj
  have zt : (t : Int) < (n : Int) := by omega
  have hd := done121 (hr.kept (T := fun _ => False) (frT_drewN own _ w 1) (OwnUp.refl _ _) (fun x hx => hx.elim)) j hj hb
  have hdone : Calls Yba.prog 121 #[pn br 0, .int .i64 (j : Int)] w.drew fun e w' => e = .returned (.tuple #[]) ∧ Ru own w' base br vw vi { R with inf := setN R.inf j (R.inf j - 1), dones := R.dones + 1 } ∧ FrT own (fun x => x = 41 ∨ x = 43) w w' := hd.mono fun e w' ⟨h1, h2, h3⟩ => ⟨h1, h2, ⟨h3.os, h3.tape, h3.output, h3.size, h3.block⟩⟩
  have c121 := cf121
  have mdd := fun x w => (md_rule x w).1
  clear h ht hr hd hjob
  go_enter Yba.func98, Yba.ntmps98
  go_wp2_with fail
  go_region_with (first | (go_at_call 121; refine hdone.mono ?_; clear hdone; rintro e w1 ⟨rfl, h1, h2⟩; have HR : Hid (Ru own w1 base br vw vi { R with inf := setN R.inf j (R.inf j - 1), dones := R.dones + 1 } ∧ FrT own (fun x => x = 41 ∨ x = 43) w w1) := ⟨h1, h2⟩; clear h1 h2))
  all_goals
    go_wp2_with fail
    go_end0
    exact ⟨rfl, HR.out.1, HR.out.2⟩
end Go.Proofs.Ybulkdpsg

/- S5830C: the law's own dispatch rule: Start. -/
import Derived.Test.YbulkdpsgU1
import Derived.BigQuiet
namespace Go.Proofs.Ybulkdpsg
open Go Go.RowKit Go.Proofs Go.Lib
set_option linter.unusedVariables false
set_option linter.unusedSimpArgs false

def ruB (wait inf : Nat → Nat) (best : Int) (j : Nat) : Int := if 0 < wait j ∧ (best < 0 ∨ inf j < inf best.toNat) then (j : Int) else best
def ruL (wait inf : Nat → Nat) (n : Nat) : Int := (List.range n).foldl (ruB wait inf) (-1)
theorem ruL_succ (wait inf : Nat → Nat) (n : Nat) : ruL wait inf (n + 1) = ruB wait inf (ruL wait inf n) n := by simp [ruL, List.range_succ]
theorem ruL_rng (wait inf : Nat → Nat) : ∀ n, ruL wait inf n = -1 ∨ ∃ b : Nat, ruL wait inf n = (b : Int) ∧ b < n ∧ 0 < wait b
  | 0 => Or.inl rfl
  | n + 1 => by
    rw [ruL_succ]
    unfold ruB
    split
    · rename_i h; exact Or.inr ⟨n, rfl, by omega, h.1⟩
    · rcases ruL_rng wait inf n with h | ⟨b, h, h2, h3⟩
      · exact Or.inl h
      · exact Or.inr ⟨b, h, by omega, h3⟩
set_option maxRecDepth 100000 in
set_option maxHeartbeats 4000000 in
theorem start123 {own : Nat → Nat} {w : World} {base br : Nat} {vw vi : Value} {R : RuSt} (h : Ru own w base br vw vi R) (hn0 : 0 < R.nJ) (now : Int) (hnow : R.last ≤ now) (hst : R.starts < 3000) (hinf : ∀ j, j < R.nJ → R.inf j < 3000) :
    Calls Yba.prog 123 #[pn br 0, .int .i64 now] w fun e w' => FrT own (fun x => x = 41 ∨ x = 42 ∨ x = 43) w w' ∧
      ((ruL R.wait R.inf R.nJ = -1 ∧ e = .returned (.tuple #[.int .i64 0, .bool false]) ∧ Ru own w' base br vw vi { R with last := now }) ∨
       ∃ b : Nat, b < R.nJ ∧ ruL R.wait R.inf R.nJ = (b : Int) ∧ 0 < R.wait b ∧ e = .returned (.tuple #[.int .i64 (b : Int), .bool true]) ∧ Ru own w' base br vw vi { R with last := now, wait := setN R.wait b (R.wait b - 1), inf := setN R.inf b (R.inf b + 1), starts := R.starts + 1 }) := by
  obtain ⟨gw, cw, gi, ci, rfl, rfl, og, ogi⟩ := h.forms hn0
  have mixed := mixedYba
  have HH : Hid (Ru own w base br (slN gw R.nJ cw) (slN gi R.nJ ci) R) := h
  have hnJ := h.b1
  have ngb : gw ≠ br := fun e => by have := h.ob; rw [← e, og] at this; omega
  have nbg : br ≠ gw := Ne.symm ngb
  have nib : gi ≠ br := fun e => by have := h.ob; rw [← e, ogi] at this; omega
  have nbi : br ≠ gi := Ne.symm nib
  have ngi : gw ≠ gi := fun e => by rw [e, ogi] at og; omega
  have nig : gi ≠ gw := Ne.symm ngi
  have c6 : w.cell? ⟨br, 6, none⟩ = some (.int .i64 R.last) := h.row.cell (i := 6) (by omega)
  have f6 := h.row.frozen 6
  have hdn : decide (now < R.last) = false := decide_eq_false (by omega)
  obtain ⟨W1, hW1⟩ : ∃ X, w.setCell ⟨br, 6, none⟩ (.int .i64 now) = X := ⟨_, rfl⟩
  have HR1 : Hid (Ru own W1 base br (slN gw R.nJ cw) (slN gi R.nJ ci) { R with last := now }) := by
    show Ru _ _ _ _ _ _ _
    rw [← hW1]
    have hfr : FrT own (fun x => x = 41) w (w.setCell ⟨br, 6, none⟩ (.int .i64 now)) := FrT.of (S := [br]) (Fr.setCell w _ _ (by simp)) (fun b _ hb => by simp at hb; subst hb; exact h.ob)
    exact ⟨h.ob, h.ow_, h.oi_, (h.row.set 6 _).congr (eight (by simp [ruF]) (by simp [ruF]) (by simp [ruF]) (by simp [ruF]) (by simp [ruF]) (by simp [ruF]) (by simp [ruF]) (by simp [ruF])), hfr.own h.ow (fun b hb => by rw [h.ow_ b hb]; omega), hfr.own h.oi (fun b hb => by rw [h.oi_ b hb]; omega), h.b1, h.b2, h.b3⟩
  have HF1 : Hid (FrT own (fun x => x = 41 ∨ x = 42 ∨ x = 43) w W1) := by
    show FrT _ _ _ _
    rw [← hW1]
    exact FrT.of (S := [br]) (Fr.setCell w _ _ (by simp)) (fun b _ hb => by simp at hb; subst hb; exact Or.inl h.ob)
  have hr := HR1.out
  have c01 : W1.cell? ⟨br, 0, none⟩ = some (.slice (some ⟨gw, 0, none⟩) R.nJ cw) := hr.row.cell (i := 0) (by omega)
  have c11 : W1.cell? ⟨br, 1, none⟩ = some (.slice (some ⟨gi, 0, none⟩) R.nJ ci) := hr.row.cell (i := 1) (by omega)
  have c41 : W1.cell? ⟨br, 4, none⟩ = some (.int .i64 (R.starts : Int)) := hr.row.cell (i := 4) (by omega)
  have f41 := hr.row.frozen 4
  have HCW : Hid (∀ j, j < R.nJ → W1.cell? ⟨gw, j, none⟩ = some (.int .i64 (R.wait j : Int)) ∧ W1.frozen? ⟨gw, j, none⟩ = false) := fun j hj => by
    obtain ⟨a, b, _, _⟩ := own_cell hr.ow (ints_get R.nJ R.wait j hj); exact ⟨a, b⟩
  have HCI : Hid (∀ j, j < R.nJ → W1.cell? ⟨gi, j, none⟩ = some (.int .i64 (R.inf j : Int)) ∧ W1.frozen? ⟨gi, j, none⟩ = false) := fun j hj => by
    obtain ⟨a, b, _, _⟩ := own_cell hr.oi (ints_get R.nJ R.inf j hj); exact ⟨a, b⟩
  have HI : Hid (∀ j, j < R.nJ → R.inf j < 3000) := hinf
  clear h hr hinf
  go_enter Yba.func123, Yba.ntmps123
  go_wp2_with fail
  go_loopw [6, 7] (fun vb vj wr => ∃ (j : Nat) (best : Int), vb = .int .i64 best ∧ vj = .int .i64 (j : Int) ∧ j ≤ R.nJ ∧ Hid (∃ q, wr = W1.drewN q) ∧ Hid (best = ruL R.wait R.inf j)) (fun _ vj _ => R.nJ - (intOf vj).toNat)
  case atStart => exact ⟨0, -1, rfl, rfl, Nat.zero_le _, ⟨0, rfl⟩, rfl⟩
  case round =>
    obtain ⟨j, best, rfl, rfl, hj, HW, HB⟩ := hrel
    have hcell : ∀ a : Addr, wr.cell? a = W1.cell? a := fun a => by obtain ⟨q, e⟩ := HW.out; rw [e]; rfl
    have hfroz : ∀ a : Addr, wr.frozen? a = W1.frozen? a := fun a => by obtain ⟨q, e⟩ := HW.out; rw [e]; rfl
    have c0r : wr.cell? ⟨br, 0, none⟩ = some (.slice (some ⟨gw, 0, none⟩) R.nJ cw) := (hcell _).trans c01
    have c1r : wr.cell? ⟨br, 1, none⟩ = some (.slice (some ⟨gi, 0, none⟩) R.nJ ci) := (hcell _).trans c11
    have c4r : wr.cell? ⟨br, 4, none⟩ = some (.int .i64 (R.starts : Int)) := (hcell _).trans c41
    have f4r : wr.frozen? ⟨br, 4, none⟩ = false := (hfroz _).trans f41
    by_cases hlt : j < R.nJ
    · have HST : Hid (ruL R.wait R.inf (j + 1) = ruB R.wait R.inf best j) := by show _ = _; rw [ruL_succ, HB.out]
      have cwj : wr.cell? ⟨gw, j, none⟩ = some (.int .i64 (R.wait j : Int)) := (hcell _).trans (HCW.out j hlt).1
      have cij : wr.cell? ⟨gi, j, none⟩ = some (.int .i64 (R.inf j : Int)) := (hcell _).trans (HCI.out j hlt).1
      have hbr := ruL_rng R.wait R.inf j
      rw [← HB.out] at hbr
      have zj : (j : Int) < (R.nJ : Int) := by omega
      have HWQ : Hid (∀ n, ∃ q, wr.drewN n = W1.drewN q) := fun n => by obtain ⟨q, e⟩ := HW.out; exact ⟨q + n, by rw [e, World.drewN_drewN]⟩
      clear hcell hfroz c01 c11 c41 f41
      by_cases h1 : R.wait j = 0
      · have HE : Hid (ruB R.wait R.inf best j = best) := by show _ = _; unfold ruB; rw [if_neg]; omega
        have hd1 : decide ((R.wait j : Int) > 0) = false := decide_eq_false (by omega)
        generalize (R.wait j : Int) = x at cwj hd1
        clear h1 hbr
        go_wp2_with fail
        go_quiet (fail)
        go_wp2
        go_roundw
        case rel => exact ⟨j + 1, best, rfl, by go_num, by omega, HWQ.out _, by rw [HST.out]; exact HE.out.symm⟩
        case measure => simp [intOf]; omega
      · have hd1 : decide ((R.wait j : Int) > 0) = true := decide_eq_true (by omega)
        rcases hbr with hbr | ⟨b, hbr, hbj, _⟩
        · have HE : Hid (ruB R.wait R.inf best j = (j : Int)) := by show _ = _; unfold ruB; rw [if_pos]; omega
          have hd2 : decide (best < 0) = true := decide_eq_true (by omega)
          generalize (R.wait j : Int) = x at cwj hd1
          clear h1
          subst hbr
          go_wp2_with fail
          go_quiet (fail)
          go_wp2
          go_roundw
          case rel => exact ⟨j + 1, (j : Int), rfl, by go_num, by omega, HWQ.out _, by rw [HST.out]; exact HE.out.symm⟩
          case measure => simp [intOf]; omega
        · subst hbr
          have cib : wr.cell? ⟨gi, b, none⟩ = some (.int .i64 (R.inf b : Int)) := (show wr.cell? ⟨gi, b, none⟩ = W1.cell? ⟨gi, b, none⟩ by obtain ⟨q, e⟩ := HW.out; rw [e]; rfl).trans (HCI.out b (by omega)).1
          have hd2 : decide ((b : Int) < 0) = false := decide_eq_false (by omega)
          have zb : (b : Int) < (R.nJ : Int) := by omega
          by_cases h2 : R.inf j < R.inf b
          · have HE : Hid (ruB R.wait R.inf (b : Int) j = (j : Int)) := by show _ = _; unfold ruB; rw [if_pos]; simp; omega
            have hd3 : decide ((R.inf j : Int) < (R.inf b : Int)) = true := decide_eq_true (by omega)
            generalize (R.wait j : Int) = x at cwj hd1
            generalize (R.inf j : Int) = y at cij hd3
            generalize (R.inf b : Int) = z at cib hd3
            clear h1 h2
            go_wp2_with fail
            go_quiet (fail)
            go_wp2
            go_roundw
            case rel => exact ⟨j + 1, (j : Int), rfl, by go_num, by omega, HWQ.out _, by rw [HST.out]; exact HE.out.symm⟩
            case measure => simp [intOf]; omega
          · have HE : Hid (ruB R.wait R.inf (b : Int) j = (b : Int)) := by show _ = _; unfold ruB; rw [if_neg]; simp; omega
            have hd3 : decide ((R.inf j : Int) < (R.inf b : Int)) = false := decide_eq_false (by omega)
            generalize (R.wait j : Int) = x at cwj hd1
            generalize (R.inf j : Int) = y at cij hd3
            generalize (R.inf b : Int) = z at cib hd3
            clear h1 h2
            go_wp2_with fail
            go_quiet (fail)
            go_wp2
            go_roundw
            case rel => exact ⟨j + 1, (b : Int), rfl, by go_num, by omega, HWQ.out _, by rw [HST.out]; exact HE.out.symm⟩
            case measure => simp [intOf]; omega
    · obtain rfl : j = R.nJ := by omega
      have hbr := ruL_rng R.wait R.inf R.nJ
      rcases hbr with hbr | ⟨b, hbr, hbj, hbw⟩
      · have hbe : best = -1 := by rw [HB.out]; exact hbr
        subst hbe
        have HE : Hid (ruL R.wait R.inf R.nJ = -1) := hbr
        clear hbr hcell hfroz
        go_wp2
        go_ret2
        obtain ⟨q, e⟩ := HW.out
        rw [e]
        refine ⟨⟨HF1.out.os, HF1.out.tape, HF1.out.output, HF1.out.size, HF1.out.block⟩, Or.inl ⟨HE.out, rfl, ?_⟩⟩
        have hr := HR1.out
        exact ⟨hr.ob, hr.ow_, hr.oi_, hr.row, hr.ow, hr.oi, hr.b1, hr.b2, hr.b3⟩
      · have hbe : best = (b : Int) := by rw [HB.out]; exact hbr
        subst hbe
        have HE : Hid (ruL R.wait R.inf R.nJ = (b : Int)) := hbr
        have cwb := (hcell ⟨gw, b, none⟩).trans (HCW.out b hbj).1
        have fwb := (hfroz ⟨gw, b, none⟩).trans (HCW.out b hbj).2
        have cib := (hcell ⟨gi, b, none⟩).trans (HCI.out b hbj).1
        have fib := (hfroz ⟨gi, b, none⟩).trans (HCI.out b hbj).2
        have hwb3 := (HH.out.b3 b hbj).1
        have hib3 := HI.out b hbj
        have hbz : ¬ (b : Int) < 0 := by omega
        have zb : (b : Int) < (R.nJ : Int) := by omega
        clear hbr hcell hfroz c01 c11 c41 f41
        obtain ⟨W2, hW2⟩ : ∃ X, wr.setCell ⟨gw, b, none⟩ (.int .i64 ((R.wait b : Int) - 1)) = X := ⟨_, rfl⟩
        have d1 : W2.cell? ⟨br, 1, none⟩ = some (.slice (some ⟨gi, 0, none⟩) R.nJ ci) := by rw [← hW2, World.cell?_setCell_other _ _ _ _ (by simp [ngb])]; exact c1r
        have d4 : W2.cell? ⟨br, 4, none⟩ = some (.int .i64 (R.starts : Int)) := by rw [← hW2, World.cell?_setCell_other _ _ _ _ (by simp [ngb])]; exact c4r
        have g4 : W2.frozen? ⟨br, 4, none⟩ = false := by rw [← hW2, World.frozen?_setCell]; exact f4r
        have di : W2.cell? ⟨gi, b, none⟩ = some (.int .i64 (R.inf b : Int)) := by rw [← hW2, World.cell?_setCell_other _ _ _ _ (by simp [ngi])]; exact cib
        have gi_ : W2.frozen? ⟨gi, b, none⟩ = false := by rw [← hW2, World.frozen?_setCell]; exact fib
        obtain ⟨W3, hW3⟩ : ∃ X, W2.setCell ⟨gi, b, none⟩ (.int .i64 ((R.inf b : Int) + 1)) = X := ⟨_, rfl⟩
        have e4 : W3.cell? ⟨br, 4, none⟩ = some (.int .i64 (R.starts : Int)) := by rw [← hW3, World.cell?_setCell_other _ _ _ _ (by simp [nib])]; exact d4
        have k4 : W3.frozen? ⟨br, 4, none⟩ = false := by rw [← hW3, World.frozen?_setCell]; exact g4
        have HWS : Hid (W3 = (wr.setCell ⟨gw, b, none⟩ (.int .i64 ((R.wait b : Int) - 1))).setCell ⟨gi, b, none⟩ (.int .i64 ((R.inf b : Int) + 1))) := by show _ = _; rw [hW2, hW3]
        go_wp2
        go_ret2
        obtain ⟨q, e⟩ := HW.out
        have hr := HR1.out
        have hWS := HWS.out
        have hrw : Ru own wr base br (slN gw R.nJ cw) (slN gi R.nJ ci) { R with last := now } := by rw [e]; exact ⟨hr.ob, hr.ow_, hr.oi_, hr.row, hr.ow, hr.oi, hr.b1, hr.b2, hr.b3⟩
        have hF1r : FrT own (fun x => x = 41 ∨ x = 42 ∨ x = 43) w wr := by rw [e]; exact ⟨HF1.out.os, HF1.out.tape, HF1.out.output, HF1.out.size, HF1.out.block⟩
        have hfr : FrT own (fun x => x = 41 ∨ x = 42 ∨ x = 43) wr (W3.setCell ⟨br, 4, none⟩ (.int .i64 ((R.starts : Int) + 1))) := by
          rw [hWS]
          refine FrT.of (S := [gw, gi, br]) (((Fr.setCell wr _ _ (by simp)).trans (Fr.setCell _ _ _ (by simp))).trans (Fr.setCell _ _ _ (by simp))) (fun b _ hb => ?_)
          simp at hb
          rcases hb with rfl | rfl | rfl
          · exact Or.inr (Or.inl og)
          · exact Or.inr (Or.inr ogi)
          · exact Or.inl hrw.ob
        refine ⟨hF1r.trans (OwnUp.refl _ _) hfr, Or.inr ⟨b, hbj, HE.out, hbw, rfl, ⟨hrw.ob, hrw.ow_, hrw.oi_, ?_, ?_, ?_, hrw.b1, ?_, ?_⟩⟩⟩
        · rw [hWS]
          refine (((hrw.row.setOther (a := ⟨gw, b, none⟩) nbg _).setOther (a := ⟨gi, b, none⟩) nbi _).set 4 _).congr (eight ?_ ?_ ?_ ?_ ?_ ?_ ?_ ?_) <;> simp [ruF]
        · have q1 := own_set hrw.ow hbj (.int .i64 ((R.wait b : Int) - 1))
          have q2 := own_frW (S := [gi]) q1 (Fr.setCell _ ⟨gi, b, none⟩ (.int .i64 ((R.inf b : Int) + 1)) (by simp)) (fun x hx => by simp [slN, Value.ownBlock] at hx; subst hx; simp [ngi])
          have q3 := own_frW (S := [br]) q2 (Fr.setCell _ ⟨br, 4, none⟩ (.int .i64 ((R.starts : Int) + 1)) (by simp)) (fun x hx => by simp [slN, Value.ownBlock] at hx; subst hx; simp [ngb])
          have hi := ints_set R.nJ R.wait b (R.wait b - 1) hbj
          rw [show ((R.wait b - 1 : Nat) : Int) = (R.wait b : Int) - 1 by omega] at hi
          rw [hWS]
          show World.ownsRow _ _ _ _ _ _ (ints R.nJ (setN R.wait b (R.wait b - 1)))
          rw [← hi]; exact q3
        · have q0 := own_frW (S := [gw]) hrw.oi (Fr.setCell wr ⟨gw, b, none⟩ (.int .i64 ((R.wait b : Int) - 1)) (by simp)) (fun x hx => by simp [slN, Value.ownBlock] at hx; subst hx; simp [nig])
          have q1 := own_set q0 hbj (.int .i64 ((R.inf b : Int) + 1))
          have q3 := own_frW (S := [br]) q1 (Fr.setCell _ ⟨br, 4, none⟩ (.int .i64 ((R.starts : Int) + 1)) (by simp)) (fun x hx => by simp [slN, Value.ownBlock] at hx; subst hx; simp [nib])
          have hi := ints_set R.nJ R.inf b (R.inf b + 1) hbj
          simp at hi
          rw [hWS]
          show World.ownsRow _ _ _ _ _ _ (ints R.nJ (setN R.inf b (R.inf b + 1)))
          rw [← hi]; exact q3
        · have := hrw.b2; simp at this ⊢; omega
        · intro u hu
          have := hrw.b3 u hu
          simp at this
          show setN R.wait b (R.wait b - 1) u ≤ 3000 ∧ setN R.inf b (R.inf b + 1) u ≤ 3000
          unfold setN
          split <;> constructor <;> omega
end Go.Proofs.Ybulkdpsg

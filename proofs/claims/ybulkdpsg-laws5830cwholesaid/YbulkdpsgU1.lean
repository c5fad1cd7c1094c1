/- S5830C: the law's own dispatch rule: Enqueue, Done. -/
import Derived.Test.YbulkdpsgW7
namespace Go.Proofs.Ybulkdpsg
open Go Go.RowKit Go.Proofs Go.Lib
set_option linter.unusedVariables false
set_option linter.unusedSimpArgs false

structure RuSt where
  nJ : Nat
  wait : Nat → Nat
  inf : Nat → Nat
  adds : Nat
  enq : Nat
  starts : Nat
  dones : Nat
  last : Int
def ruF (vw vi : Value) (R : RuSt) (i : Nat) : Value := if i = 0 then vw else if i = 1 then vi else if i = 2 then .int .i64 (R.adds : Int) else if i = 3 then .int .i64 (R.enq : Int) else if i = 4 then .int .i64 (R.starts : Int) else if i = 5 then .int .i64 (R.dones : Int) else if i = 6 then .int .i64 R.last else .bool false
def ints (n : Nat) (f : Nat → Nat) : List Value := (List.range n).map fun j => .int .i64 (f j : Int)
theorem ints_get (n : Nat) (f : Nat → Nat) (j : Nat) (h : j < n) : (ints n f)[j]? = some (.int .i64 (f j : Int)) := by simp [ints, h]
theorem ints_set (n : Nat) (f : Nat → Nat) (j x : Nat) (h : j < n) : (ints n f).set j (.int .i64 (x : Int)) = ints n (setN f j x) := by
  refine List.ext_getElem? fun i => ?_
  rw [List.getElem?_set]
  by_cases e : j = i
  · subst e
    rw [if_pos rfl, if_pos (by simp [ints, h]), ints_get n _ j h]; simp [setN]
  · rw [if_neg e]
    by_cases hi : i < n
    · rw [ints_get n f i hi, ints_get n _ i hi]; simp [setN, Ne.symm e]
    · simp [ints, hi]
structure Ru (own : Nat → Nat) (w : World) (base br : Nat) (vw vi : Value) (R : RuSt) : Prop where
  ob : own br = 41
  ow_ : ∀ b, vw.ownBlock = some b → own b = 42
  oi_ : ∀ b, vi.ownBlock = some b → own b = 43
  row : w.rowIs br 60 8 (ruF vw vi R)
  ow : w.ownsRow base 3 1 vw R.nJ (ints R.nJ R.wait)
  oi : w.ownsRow base 3 1 vi R.nJ (ints R.nJ R.inf)
  b1 : R.nJ ≤ 4
  b2 : R.adds ≤ 4 ∧ R.enq ≤ 3000 ∧ R.starts ≤ 3000 ∧ R.dones ≤ 3000
  b3 : ∀ j, j < R.nJ → R.wait j ≤ 3000 ∧ R.inf j ≤ 3000
theorem own_cell {w : World} {base g n cap : Nat} {e : TypeId} {xs : List Value} (h : w.ownsRow base e 1 (slN g n cap) n xs) {j : Nat} {u : Value} (hj : xs[j]? = some u) : w.cell? ⟨g, j, none⟩ = some u ∧ w.frozen? ⟨g, j, none⟩ = false ∧ g < w.heap.size ∧ n ≤ cap := by
  have k := h.cells (g := g) rfl j u hj
  have hadd : (⟨g, 0, none⟩ : Addr).add j = ⟨g, j, none⟩ := by unfold Addr.add; split <;> simp_all
  rw [hadd] at k
  rcases h.2 with ⟨h1, _⟩ | ⟨g', cap', cur, hv, hb, hg, hc, _⟩
  · cases h1
  · unfold slN at hv
    simp only [Value.slice.injEq, Option.some.injEq, Addr.mk.injEq, and_true, true_and] at hv
    obtain ⟨rfl, rfl⟩ := hv
    exact ⟨k, by simp [World.frozen?, hg], (Array.getElem?_eq_some_iff.1 hg).1, hc⟩
theorem eight {P : Nat → Prop} (h0 : P 0) (h1 : P 1) (h2 : P 2) (h3 : P 3) (h4 : P 4) (h5 : P 5) (h6 : P 6) (h7 : P 7) : ∀ i, i < 8 → P i := fun i hi => by
  rcases (show i = 0 ∨ i = 1 ∨ i = 2 ∨ i = 3 ∨ i = 4 ∨ i = 5 ∨ i = 6 ∨ i = 7 by omega) with rfl | rfl | rfl | rfl | rfl | rfl | rfl | rfl <;> assumption
/-- The rule's two slices, written out. -/
theorem Ru.forms {own : Nat → Nat} {w : World} {base br : Nat} {vw vi : Value} {R : RuSt} (h : Ru own w base br vw vi R) (hn : 0 < R.nJ) : ∃ gw cw gi ci, vw = slN gw R.nJ cw ∧ vi = slN gi R.nJ ci ∧ own gw = 42 ∧ own gi = 43 := by
  obtain ⟨gw, cw, e1, _, _⟩ := h.ow.form hn
  obtain ⟨gi, ci, e2, _, _⟩ := h.oi.form hn
  exact ⟨gw, cw, gi, ci, e1, e2, h.ow_ gw (by rw [e1]; rfl), h.oi_ gi (by rw [e2]; rfl)⟩
set_option maxRecDepth 100000 in
set_option maxHeartbeats 1000000 in
theorem enq122 {own : Nat → Nat} {w : World} {base br : Nat} {vw vi : Value} {R : RuSt} (h : Ru own w base br vw vi R) (j : Nat) (hj : j < R.nJ) (hb : R.wait j < 3000 ∧ R.enq < 3000) :
    Calls Yba.prog 122 #[pn br 0, .int .i64 (j : Int), .int .i64 1] w fun e w' => e = .returned (.tuple #[]) ∧ Ru own w' base br vw vi { R with wait := setN R.wait j (R.wait j + 1), enq := R.enq + 1 } ∧ FrT own (fun x => x = 41 ∨ x = 42) w w' := by
  obtain ⟨gw, cw, gi, ci, rfl, rfl, og, ogi⟩ := h.forms (by omega)
  have HH : Hid (Ru own w base br (slN gw R.nJ cw) (slN gi R.nJ ci) R) := h
  have hnJ := h.b1
  have c0 : w.cell? ⟨br, 0, none⟩ = some (.slice (some ⟨gw, 0, none⟩) R.nJ cw) := h.row.cell (i := 0) (by omega)
  have c3 : w.cell? ⟨br, 3, none⟩ = some (.int .i64 (R.enq : Int)) := h.row.cell (i := 3) (by omega)
  have f3 := h.row.frozen 3
  obtain ⟨cj, fj, hgl, _⟩ := own_cell h.ow (ints_get R.nJ R.wait j hj)
  have ngb : gw ≠ br := fun e => by have := h.ob; rw [← e, og] at this; omega
  have nbg : br ≠ gw := Ne.symm ngb
  have ngi : gw ≠ gi := fun e => by rw [e, ogi] at og; omega
  have nbi : br ≠ gi := fun e => by have := h.ob; rw [e, ogi] at this; omega
  have hd1 : decide ((j : Int) < 0) = false := decide_eq_false (by omega)
  have hd2 : decide ((j : Int) ≥ (R.nJ : Int)) = false := decide_eq_false (by omega)
  have zj : (j : Int) < (R.nJ : Int) := by omega
  obtain ⟨W1, hW1⟩ : ∃ X, w.setCell ⟨gw, j, none⟩ (.int .i64 ((R.wait j : Int) + 1)) = X := ⟨_, rfl⟩
  have c31 : W1.cell? ⟨br, 3, none⟩ = some (.int .i64 (R.enq : Int)) := by rw [← hW1, World.cell?_setCell_other _ _ _ _ (by simp [ngb])]; exact c3
  have f31 : W1.frozen? ⟨br, 3, none⟩ = false := by rw [← hW1, World.frozen?_setCell]; exact f3
  have HW : Hid (w.setCell ⟨gw, j, none⟩ (.int .i64 ((R.wait j : Int) + 1)) = W1) := hW1
  clear h
  go_enter Yba.func122, Yba.ntmps122
  go_wp2
  go_end0
  have h := HH.out
  have hW := HW.out
  have hfr : FrT own (fun x => x = 41 ∨ x = 42) w (W1.setCell ⟨br, 3, none⟩ (.int .i64 ((R.enq : Int) + 1))) := by
    rw [← hW]
    refine FrT.of (S := [gw, br]) ((Fr.setCell w _ _ (by simp)).trans (Fr.setCell _ _ _ (by simp))) (fun b _ hb => ?_)
    simp at hb
    rcases hb with rfl | rfl
    · exact Or.inr og
    · exact Or.inl h.ob
  refine ⟨rfl, ⟨h.ob, h.ow_, h.oi_, ?_, ?_, ?_, h.b1, ?_, ?_⟩, hfr⟩
  · rw [← hW]
    refine ((h.row.setOther (a := ⟨gw, j, none⟩) nbg _).set 3 _).congr (eight ?_ ?_ ?_ ?_ ?_ ?_ ?_ ?_) <;> simp [ruF]
  · have q := own_set h.ow hj (.int .i64 ((R.wait j : Int) + 1))
    rw [hW] at q
    have q2 := own_frW (S := [br]) q (Fr.setCell W1 ⟨br, 3, none⟩ (.int .i64 ((R.enq : Int) + 1)) (by simp)) (fun b hb => by simp [slN, Value.ownBlock] at hb; subst hb; simp [ngb])
    have := ints_set R.nJ R.wait j (R.wait j + 1) hj
    simp at this
    rw [this] at q2
    exact q2
  · exact hfr.own h.oi (fun b hb => by rw [h.oi_ b hb]; omega)
  · have := h.b2; simp; omega
  · intro u hu
    have := h.b3 u hu
    show setN R.wait j (R.wait j + 1) u ≤ 3000 ∧ _
    unfold setN; split
    · exact ⟨by omega, this.2⟩
    · exact this
set_option maxRecDepth 100000 in
set_option maxHeartbeats 1000000 in
theorem done121 {own : Nat → Nat} {w : World} {base br : Nat} {vw vi : Value} {R : RuSt} (h : Ru own w base br vw vi R) (j : Nat) (hj : j < R.nJ) (hb : 0 < R.inf j ∧ R.dones < 3000) :
    Calls Yba.prog 121 #[pn br 0, .int .i64 (j : Int)] w fun e w' => e = .returned (.tuple #[]) ∧ Ru own w' base br vw vi { R with inf := setN R.inf j (R.inf j - 1), dones := R.dones + 1 } ∧ FrT own (fun x => x = 41 ∨ x = 43) w w' := by
  obtain ⟨gw, cw, gi, ci, rfl, rfl, og, ogi⟩ := h.forms (by omega)
  have HH : Hid (Ru own w base br (slN gw R.nJ cw) (slN gi R.nJ ci) R) := h
  have hnJ := h.b1
  have c1 : w.cell? ⟨br, 1, none⟩ = some (.slice (some ⟨gi, 0, none⟩) R.nJ ci) := h.row.cell (i := 1) (by omega)
  have c5 : w.cell? ⟨br, 5, none⟩ = some (.int .i64 (R.dones : Int)) := h.row.cell (i := 5) (by omega)
  have f5 := h.row.frozen 5
  obtain ⟨cj, fj, hgl, _⟩ := own_cell h.oi (ints_get R.nJ R.inf j hj)
  have hbj := (h.b3 j hj).2
  have ngb : gi ≠ br := fun e => by have := h.ob; rw [← e, ogi] at this; omega
  have nbg : br ≠ gi := Ne.symm ngb
  have hd1 : decide ((j : Int) < 0) = false := decide_eq_false (by omega)
  have hd2 : decide ((j : Int) ≥ (R.nJ : Int)) = false := decide_eq_false (by omega)
  have hd3 : decide ((R.inf j : Int) ≤ 0) = false := decide_eq_false (by omega)
  have zj : (j : Int) < (R.nJ : Int) := by omega
  obtain ⟨W1, hW1⟩ : ∃ X, w.setCell ⟨gi, j, none⟩ (.int .i64 ((R.inf j : Int) - 1)) = X := ⟨_, rfl⟩
  have c51 : W1.cell? ⟨br, 5, none⟩ = some (.int .i64 (R.dones : Int)) := by rw [← hW1, World.cell?_setCell_other _ _ _ _ (by simp [ngb])]; exact c5
  have f51 : W1.frozen? ⟨br, 5, none⟩ = false := by rw [← hW1, World.frozen?_setCell]; exact f5
  have HW : Hid (w.setCell ⟨gi, j, none⟩ (.int .i64 ((R.inf j : Int) - 1)) = W1) := hW1
  clear h
  go_enter Yba.func121, Yba.ntmps121
  go_wp2
  go_end0
  have h := HH.out
  have hW := HW.out
  have hfr : FrT own (fun x => x = 41 ∨ x = 43) w (W1.setCell ⟨br, 5, none⟩ (.int .i64 ((R.dones : Int) + 1))) := by
    rw [← hW]
    refine FrT.of (S := [gi, br]) ((Fr.setCell w _ _ (by simp)).trans (Fr.setCell _ _ _ (by simp))) (fun b _ hb => ?_)
    simp at hb
    rcases hb with rfl | rfl
    · exact Or.inr ogi
    · exact Or.inl h.ob
  refine ⟨rfl, ⟨h.ob, h.ow_, h.oi_, ?_, ?_, ?_, h.b1, ?_, ?_⟩, hfr⟩
  · rw [← hW]
    refine ((h.row.setOther (a := ⟨gi, j, none⟩) nbg _).set 5 _).congr (eight ?_ ?_ ?_ ?_ ?_ ?_ ?_ ?_) <;> simp [ruF]
  · exact hfr.own h.ow (fun b hb => by rw [h.ow_ b hb]; omega)
  · have q := own_set h.oi hj (.int .i64 ((R.inf j : Int) - 1))
    rw [hW] at q
    have q2 := own_frW (S := [br]) q (Fr.setCell W1 ⟨br, 5, none⟩ (.int .i64 ((R.dones : Int) + 1)) (by simp)) (fun b hb => by simp [slN, Value.ownBlock] at hb; subst hb; simp [ngb])
    have := ints_set R.nJ R.inf j (R.inf j - 1) hj
    rw [show ((R.inf j - 1 : Nat) : Int) = (R.inf j : Int) - 1 by omega] at this
    rw [this] at q2
    exact q2
  · have := h.b2; simp; omega
  · intro u hu
    have := h.b3 u hu
    show _ ∧ setN R.inf j (R.inf j - 1) u ≤ 3000
    unfold setN; split
    · exact ⟨this.1, by omega⟩
    · exact this
end Go.Proofs.Ybulkdpsg

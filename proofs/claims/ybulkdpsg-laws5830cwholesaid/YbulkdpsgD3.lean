/- S5830C: container/list. -/
import Derived.Test.YbulkdpsgD1
import Derived.LaidEqlPtr
namespace Go.Proofs.Ybulkdpsg
open Go Go.RowKit Go.Proofs Go.Lib
set_option linter.unusedVariables false
set_option linter.unusedSimpArgs false

theorem len50 (br ro : Nat) (n : Int) (w : World) (h : w.cell? ⟨br, ro + 4, none⟩ = some (.int .i64 n)) : Calls Yba.prog 50 #[.pointer (some ⟨br, ro, none⟩)] w fun e w' => e = .returned (.int .i64 n) ∧ w = w' := by
  go_enter Yba.func50, Yba.ntmps50
  go_wp2
  go_ret
  exact ⟨rfl, rfl⟩
theorem back52 (br ro : Nat) (n : Int) (p : Value) (w : World) (h : w.cell? ⟨br, ro + 4, none⟩ = some (.int .i64 n)) (hn : (n == 0) = false) (hp : w.cell? ⟨br, ro + 1, none⟩ = some p) : Calls Yba.prog 52 #[.pointer (some ⟨br, ro, none⟩)] w fun e w' => e = .returned p ∧ w = w' := by
  go_enter Yba.func52, Yba.ntmps52
  go_wp2
  go_ret
  exact ⟨rfl, rfl⟩
set_option maxHeartbeats 400000 in
theorem init68 (br ro : Nat) (w : World) (x0 x1 x4 : Value) (c0 : w.cell? ⟨br, ro, none⟩ = some x0) (c1 : w.cell? ⟨br, ro + 1, none⟩ = some x1) (c4 : w.cell? ⟨br, ro + 4, none⟩ = some x4) (f0 : w.frozen? ⟨br, ro, none⟩ = false) (f1 : w.frozen? ⟨br, ro + 1, none⟩ = false) (f4 : w.frozen? ⟨br, ro + 4, none⟩ = false) :
    Calls Yba.prog 68 #[.pointer (some ⟨br, ro, none⟩)] w fun e w' => e = .returned (.pointer (some ⟨br, ro, none⟩)) ∧ w' = ((w.setCell ⟨br, ro, none⟩ (.pointer (some ⟨br, ro, none⟩))).setCell ⟨br, ro + 1, none⟩ (.pointer (some ⟨br, ro, none⟩))).setCell ⟨br, ro + 4, none⟩ (.int .i64 0) := by
  go_enter Yba.func68, Yba.ntmps68
  go_wp2
  go_ret
  exact ⟨rfl, rfl⟩
theorem hidI {p : Prop} (h : p) : Hid p := h
theorem drewN_two (w : World) : w.drew.drew = w.drewN 2 := rfl
abbrev pn (b o : Nat) : Value := .pointer (some ⟨b, o, none⟩)
def rmW (w : World) (br ro be bp po bn no : Nat) (n : Int) : World := (((((w.setCell ⟨bp, po, none⟩ (pn bn no)).setCell ⟨bn, no + 1, none⟩ (pn bp po)).setCell ⟨be, 0, none⟩ (.pointer none)).setCell ⟨be, 1, none⟩ (.pointer none)).setCell ⟨be, 2, none⟩ (.pointer none)).setCell ⟨br, ro + 4, none⟩ (.int .i64 (n - 1))
set_option maxHeartbeats 1000000 in
theorem remove64 (br ro be bp po bn no : Nat) (w : World) (n : Int) (x y z : Value) (h0 : w.cell? ⟨be, 0, none⟩ = some (pn bn no)) (h1 : w.cell? ⟨be, 1, none⟩ = some (pn bp po)) (hz : w.cell? ⟨be, 2, none⟩ = some z) (h2 : w.cell? ⟨bp, po, none⟩ = some x) (h3 : w.cell? ⟨bn, no + 1, none⟩ = some y) (h4 : w.cell? ⟨br, ro + 4, none⟩ = some (.int .i64 n))
    (f0 : w.frozen? ⟨be, 0, none⟩ = false) (f1 : w.frozen? ⟨be, 1, none⟩ = false) (f2 : w.frozen? ⟨be, 2, none⟩ = false) (f3 : w.frozen? ⟨bp, po, none⟩ = false) (f4 : w.frozen? ⟨bn, no + 1, none⟩ = false) (f5 : w.frozen? ⟨br, ro + 4, none⟩ = false)
    (nep : be ≠ bp) (nen : be ≠ bn) (ner : be ≠ br) (npn : (⟨bp, po, none⟩ : Addr) ≠ ⟨bn, no + 1, none⟩) (nrp : (⟨bp, po, none⟩ : Addr) ≠ ⟨br, ro + 4, none⟩) (nrn : (⟨bn, no + 1, none⟩ : Addr) ≠ ⟨br, ro + 4, none⟩) (hn : 0 < n) (hn2 : n < 100) :
    Calls Yba.prog 64 #[pn br ro, pn be 0] w fun e w' => e = .returned (.tuple #[]) ∧ ∃ q, w' = (rmW w br ro be bp po bn no n).drewN q := by
  have mixed := mixedYba
  have k1 : (w.setCell ⟨bp, po, none⟩ (pn bn no)).cell? ⟨bn, no + 1, none⟩ = some y := by rw [World.cell?_setCell_other _ _ _ _ npn]; exact h3
  have k2 : ((w.setCell ⟨bp, po, none⟩ (pn bn no)).setCell ⟨bn, no + 1, none⟩ (pn bp po)).cell? ⟨br, ro + 4, none⟩ = some (.int .i64 n) := by rw [World.cell?_setCell_other _ _ _ _ nrn, World.cell?_setCell_other _ _ _ _ nrp]; exact h4
  clear npn nrp nrn
  go_enter Yba.func64, Yba.ntmps64
  go_wp2_with fail
  go_big_region_o
  all_goals go_wp2_with fail
  go_big_region_o
  all_goals go_wp2_with fail
  go_end0
  refine ⟨rfl, 2, ?_⟩
  rw [← drewN_two]
  unfold rmW
  rfl

def insW (w : World) (br ro be bn no : Nat) (n : Int) : World := (((((w.setCell ⟨be, 1, none⟩ (pn br ro)).setCell ⟨be, 0, none⟩ (pn bn no)).setCell ⟨br, ro, none⟩ (pn be 0)).setCell ⟨bn, no + 1, none⟩ (pn be 0)).setCell ⟨be, 2, none⟩ (pn br ro)).setCell ⟨br, ro + 4, none⟩ (.int .i64 (n + 1))
set_option maxHeartbeats 1000000 in
theorem insert69 (br ro be bn no : Nat) (w : World) (n : Int) (x0 x1 x2 y : Value) (h0 : w.cell? ⟨be, 0, none⟩ = some x0) (h1 : w.cell? ⟨be, 1, none⟩ = some x1) (h2 : w.cell? ⟨be, 2, none⟩ = some x2) (h3 : w.cell? ⟨br, ro, none⟩ = some (pn bn no)) (h4 : w.cell? ⟨bn, no + 1, none⟩ = some y) (h5 : w.cell? ⟨br, ro + 4, none⟩ = some (.int .i64 n))
    (f0 : w.frozen? ⟨be, 0, none⟩ = false) (f1 : w.frozen? ⟨be, 1, none⟩ = false) (f2 : w.frozen? ⟨be, 2, none⟩ = false) (f3 : w.frozen? ⟨br, ro, none⟩ = false) (f4 : w.frozen? ⟨bn, no + 1, none⟩ = false) (f5 : w.frozen? ⟨br, ro + 4, none⟩ = false)
    (nen : be ≠ bn) (ner : be ≠ br) (a1 : (⟨br, ro, none⟩ : Addr) ≠ ⟨bn, no + 1, none⟩) (a2 : (⟨bn, no + 1, none⟩ : Addr) ≠ ⟨br, ro + 4, none⟩) (hn : 0 ≤ n) (hn2 : n < 100) :
    Calls Yba.prog 69 #[pn br ro, pn be 0, pn br ro] w fun e w' => e = .returned (pn be 0) ∧ w' = insW w br ro be bn no n := by
  have k1 : (((w.setCell ⟨be, 1, none⟩ (pn br ro)).setCell ⟨be, 0, none⟩ (pn bn no)).setCell ⟨br, ro, none⟩ (pn be 0)).cell? ⟨bn, no + 1, none⟩ = some y := by rw [World.cell?_setCell_other _ _ _ _ a1, World.cell?_setCell_other _ _ _ _ (by simp [nen]), World.cell?_setCell_other _ _ _ _ (by simp [nen])]; exact h4
  have k2 : ((((w.setCell ⟨be, 1, none⟩ (pn br ro)).setCell ⟨be, 0, none⟩ (pn bn no)).setCell ⟨br, ro, none⟩ (pn be 0)).setCell ⟨bn, no + 1, none⟩ (pn be 0)).cell? ⟨br, ro + 4, none⟩ = some (.int .i64 n) := by rw [World.cell?_setCell_other _ _ _ _ a2, World.cell?_setCell_other _ _ _ _ (by simp), World.cell?_setCell_other _ _ _ _ (by simp [ner]), World.cell?_setCell_other _ _ _ _ (by simp [ner])]; exact h5
  clear a1 a2
  have nen' : ¬ bn = be := fun h => nen h.symm
  have ner' : ¬ br = be := fun h => ner h.symm
  go_enter Yba.func69, Yba.ntmps69
  go_wp2
  go_ret
  exact ⟨rfl, rfl⟩
def mvW (w : World) (br ro be bp po bn no bf fo : Nat) : World := (((((w.setCell ⟨bp, po, none⟩ (pn bn no)).setCell ⟨bn, no + 1, none⟩ (pn bp po)).setCell ⟨be, 1, none⟩ (pn br ro)).setCell ⟨be, 0, none⟩ (pn bf fo)).setCell ⟨br, ro, none⟩ (pn be 0)).setCell ⟨bf, fo + 1, none⟩ (pn be 0)
set_option maxRecDepth 100000 in
set_option maxHeartbeats 1000000 in
theorem move61 (br ro be bp po bn no bf fo : Nat) (w : World) (x y z : Value) (h0 : w.cell? ⟨be, 0, none⟩ = some (pn bn no)) (h1 : w.cell? ⟨be, 1, none⟩ = some (pn bp po)) (h2 : w.cell? ⟨bp, po, none⟩ = some x) (h3 : w.cell? ⟨bn, no + 1, none⟩ = some y) (h4 : w.cell? ⟨br, ro, none⟩ = some (pn bf fo)) (h5 : w.cell? ⟨bf, fo + 1, none⟩ = some z)
    (f0 : w.frozen? ⟨be, 0, none⟩ = false) (f1 : w.frozen? ⟨be, 1, none⟩ = false) (f2 : w.frozen? ⟨bp, po, none⟩ = false) (f3 : w.frozen? ⟨bn, no + 1, none⟩ = false) (f4 : w.frozen? ⟨br, ro, none⟩ = false) (f5 : w.frozen? ⟨bf, fo + 1, none⟩ = false)
    (nep : be ≠ bp) (nen : be ≠ bn) (ner : be ≠ br) (nef : be ≠ bf) (a1 : (⟨bp, po, none⟩ : Addr) ≠ ⟨bn, no + 1, none⟩) (a2 : (⟨bp, po, none⟩ : Addr) ≠ ⟨br, ro, none⟩) (a3 : (⟨bn, no + 1, none⟩ : Addr) ≠ ⟨br, ro, none⟩) (hf : ∃ z', (((((w.setCell ⟨bp, po, none⟩ (pn bn no)).setCell ⟨bn, no + 1, none⟩ (pn bp po)).setCell ⟨be, 1, none⟩ (pn br ro)).setCell ⟨be, 0, none⟩ (pn bf fo)).setCell ⟨br, ro, none⟩ (pn be 0)).cell? ⟨bf, fo + 1, none⟩ = some z') (hq : (binOp .eql 113 (pn be 0) (pn br ro)).run Yba.prog w = .ok (.bool false) w) :
    Calls Yba.prog 61 #[pn br ro, pn be 0, pn br ro] w fun e w' => e = .returned (.tuple #[]) ∧ ∃ q, w' = (mvW w br ro be bp po bn no bf fo).drewN q := by
  have mixed := mixedYba
  have nen' : ¬ bn = be := fun h => nen h.symm
  have ner' : ¬ br = be := fun h => ner h.symm
  have nep' : ¬ bp = be := fun h => nep h.symm
  have nef' : ¬ bf = be := fun h => nef h.symm
  obtain ⟨z', k3⟩ := hf
  obtain ⟨W1, hW1⟩ : ∃ W, w.setCell ⟨bp, po, none⟩ (pn bn no) = W := ⟨_, rfl⟩
  have c10 : W1.cell? ⟨be, 0, none⟩ = some (pn bn no) := by rw [← hW1, World.cell?_setCell_other _ _ _ _ (by simp [nep'])]; exact h0
  have c11 : W1.cell? ⟨be, 1, none⟩ = some (pn bp po) := by rw [← hW1, World.cell?_setCell_other _ _ _ _ (by simp [nep'])]; exact h1
  have c12 : W1.cell? ⟨bn, no + 1, none⟩ = some y := by rw [← hW1, World.cell?_setCell_other _ _ _ _ a1]; exact h3
  have g12 : W1.frozen? ⟨bn, no + 1, none⟩ = false := by rw [← hW1, World.frozen?_setCell]; exact f3
  obtain ⟨W2, hW2⟩ : ∃ W, W1.setCell ⟨bn, no + 1, none⟩ (pn bp po) = W := ⟨_, rfl⟩
  have c21 : W2.cell? ⟨be, 1, none⟩ = some (pn bp po) := by rw [← hW2, World.cell?_setCell_other _ _ _ _ (by simp [nen'])]; exact c11
  have c20 : W2.cell? ⟨be, 0, none⟩ = some (pn bn no) := by rw [← hW2, World.cell?_setCell_other _ _ _ _ (by simp [nen'])]; exact c10
  have c22 : W2.cell? ⟨br, ro, none⟩ = some (pn bf fo) := by rw [← hW2, World.cell?_setCell_other _ _ _ _ a3, ← hW1, World.cell?_setCell_other _ _ _ _ a2]; exact h4
  have g21 : W2.frozen? ⟨be, 1, none⟩ = false := by rw [← hW2, World.frozen?_setCell, ← hW1, World.frozen?_setCell]; exact f1
  have g20 : W2.frozen? ⟨be, 0, none⟩ = false := by rw [← hW2, World.frozen?_setCell, ← hW1, World.frozen?_setCell]; exact f0
  have g22 : W2.frozen? ⟨br, ro, none⟩ = false := by rw [← hW2, World.frozen?_setCell, ← hW1, World.frozen?_setCell]; exact f4
  have g23 : W2.frozen? ⟨bf, fo + 1, none⟩ = false := by rw [← hW2, World.frozen?_setCell, ← hW1, World.frozen?_setCell]; exact f5
  obtain ⟨W3, hW3⟩ : ∃ W, W2.setCell ⟨be, 1, none⟩ (pn br ro) = W := ⟨_, rfl⟩
  have c31 : W3.cell? ⟨be, 1, none⟩ = some (pn br ro) := by rw [← hW3]; exact World.cell?_setCell_same _ _ _ c21
  have c30 : W3.cell? ⟨be, 0, none⟩ = some (pn bn no) := by rw [← hW3, World.cell?_setCell_other _ _ _ _ (by simp)]; exact c20
  have c32 : W3.cell? ⟨br, ro, none⟩ = some (pn bf fo) := by rw [← hW3, World.cell?_setCell_other _ _ _ _ (by simp [ner])]; exact c22
  have g30 : W3.frozen? ⟨be, 0, none⟩ = false := by rw [← hW3, World.frozen?_setCell]; exact g20
  have g32 : W3.frozen? ⟨br, ro, none⟩ = false := by rw [← hW3, World.frozen?_setCell]; exact g22
  have g33 : W3.frozen? ⟨bf, fo + 1, none⟩ = false := by rw [← hW3, World.frozen?_setCell]; exact g23
  obtain ⟨W4, hW4⟩ : ∃ W, W3.setCell ⟨be, 0, none⟩ (pn bf fo) = W := ⟨_, rfl⟩
  have c40 : W4.cell? ⟨be, 0, none⟩ = some (pn bf fo) := by rw [← hW4]; exact World.cell?_setCell_same _ _ _ c30
  have c41 : W4.cell? ⟨be, 1, none⟩ = some (pn br ro) := by rw [← hW4, World.cell?_setCell_other _ _ _ _ (by simp)]; exact c31
  have c42 : W4.cell? ⟨br, ro, none⟩ = some (pn bf fo) := by rw [← hW4, World.cell?_setCell_other _ _ _ _ (by simp [ner])]; exact c32
  have g42 : W4.frozen? ⟨br, ro, none⟩ = false := by rw [← hW4, World.frozen?_setCell]; exact g32
  have g43 : W4.frozen? ⟨bf, fo + 1, none⟩ = false := by rw [← hW4, World.frozen?_setCell]; exact g33
  obtain ⟨W5, hW5⟩ : ∃ W, W4.setCell ⟨br, ro, none⟩ (pn be 0) = W := ⟨_, rfl⟩
  have c50 : W5.cell? ⟨be, 0, none⟩ = some (pn bf fo) := by rw [← hW5, World.cell?_setCell_other _ _ _ _ (by simp [ner'])]; exact c40
  have c53 : W5.cell? ⟨bf, fo + 1, none⟩ = some z' := by rw [hW1, hW2, hW3, hW4, hW5] at k3; exact k3
  have g53 : W5.frozen? ⟨bf, fo + 1, none⟩ = false := by rw [← hW5, World.frozen?_setCell]; exact g43
  obtain ⟨W6, hW6⟩ : ∃ W, W5.setCell ⟨bf, fo + 1, none⟩ (pn be 0) = W := ⟨_, rfl⟩
  have HW : Hid (mvW w br ro be bp po bn no bf fo = W6) := by show mvW _ _ _ _ _ _ _ _ _ _ = _; unfold mvW; rw [hW1, hW2, hW3, hW4, hW5, hW6]
  clear a1 a2 a3 k3 nen' ner' nep' nef' nen ner nep nef h3 h4 h5 f0 f1 f3 f4 f5
  go_enter Yba.func61, Yba.ntmps61
  go_wp2_with fail
  clear hq
  go_big_region_o
  all_goals go_wp2_with fail
  go_big_region_o
  all_goals go_wp2_with fail
  go_end0
  refine ⟨rfl, 2, ?_⟩
  rw [← drewN_two, HW.out]
theorem neq_same114 (a : Addr) (w : World) : (binOp .neq 114 (.pointer (some a)) (.pointer (some a))).run Yba.prog w = .ok (.bool false) w := by
  have hp : Yba.prog.underlying 114 = some (.pointer 118) := by kernel_rfl
  have hs : ∃ j, Yba.prog.info? 118 = some j := Option.isSome_iff_exists.1 (by kernel_rfl)
  obtain ⟨j, hte⟩ := hs
  have h : ∀ d : Nat, (Op.equalIn (d + 1) 114 (.pointer (some a)) (.pointer (some a))).run Yba.prog w = .ok true w := fun d => by
    simp [Op.equalIn, run_underlying hp, sizeOf, typeInfo, hte, run_sameAddr_same]
  simp only [binOp]
  simp [Op.equal, Op.maxDepth, h 9999]
theorem eq_other113 {a b : Addr} {w : World} {ca cb : Array Value} {ta tb : TypeId} (hne : a ≠ b) (ha : w.heap[a.block]? = some (.cells ca ta (0, 0))) (hb : w.heap[b.block]? = some (.cells cb tb (0, 0))) : (binOp .eql 113 (.pointer (some a)) (.pointer (some b))).run Yba.prog w = .ok (.bool false) w := by
  have hp : Yba.prog.underlying 113 = some (.pointer 116) := by kernel_rfl
  have hs : ∃ j, Yba.prog.info? 116 = some j ∧ j.size ≠ 0 := by
    have : (Yba.prog.info? 116).any (fun j => j.size != 0) = true := by kernel_rfl
    cases h : Yba.prog.info? 116 with
    | none => rw [h] at this; cases this
    | some j => rw [h] at this; exact ⟨j, rfl, by simpa using this⟩
  obtain ⟨j, hte, hsz⟩ := hs
  exact run_eql_ptr_other w hp hte hsz hne ha hb
theorem eq_same113 (a : Addr) (w : World) : (binOp .eql 113 (.pointer (some a)) (.pointer (some a))).run Yba.prog w = .ok (.bool true) w := by
  have hp : Yba.prog.underlying 113 = some (.pointer 116) := by kernel_rfl
  have hs : ∃ j, Yba.prog.info? 116 = some j := Option.isSome_iff_exists.1 (by kernel_rfl)
  obtain ⟨j, hte⟩ := hs
  exact run_eql_ptr_same w a hp hte
theorem eq_same114 (a : Addr) (w : World) : (binOp .eql 114 (.pointer (some a)) (.pointer (some a))).run Yba.prog w = .ok (.bool true) w := by
  have hp : Yba.prog.underlying 114 = some (.pointer 118) := by kernel_rfl
  have hs : ∃ j, Yba.prog.info? 118 = some j := Option.isSome_iff_exists.1 (by kernel_rfl)
  obtain ⟨j, hte⟩ := hs
  exact run_eql_ptr_same w a hp hte
/-- MoveToFront: the element is the first already. -/
theorem front48_same (br ro be : Nat) (w : World) (h0 : w.cell? ⟨be, 2, none⟩ = some (pn br ro)) (h1 : w.cell? ⟨br, ro, none⟩ = some (pn be 0)) :
    Calls Yba.prog 48 #[pn br ro, pn be 0] w fun e w' => e = .returned (.tuple #[]) ∧ w = w' := by
  have e1 := neq_same114 ⟨br, ro, none⟩ w
  have e2 := eq_same113 ⟨be, 0, none⟩ w
  go_enter Yba.func48, Yba.ntmps48
  go_wp2
  ((try simp only [Exit.inBlock, Exit.then]); refine bodyPost_ret (results_none rfl _ _ _) rfl ?_)
  exact ⟨rfl, rfl⟩
theorem front48_move (br ro be bp po bn no bf fo : Nat) (w : World) (h0 : w.cell? ⟨be, 2, none⟩ = some (pn br ro)) (h1 : w.cell? ⟨br, ro, none⟩ = some (pn bf fo)) (e2 : (binOp .eql 113 (pn bf fo) (pn be 0)).run Yba.prog w = .ok (.bool false) w)
    (hm : Calls Yba.prog 61 #[pn br ro, pn be 0, pn br ro] w fun e w' => e = .returned (.tuple #[]) ∧ ∃ q, w' = (mvW w br ro be bp po bn no bf fo).drewN q) :
    Calls Yba.prog 48 #[pn br ro, pn be 0] w fun e w' => e = .returned (.tuple #[]) ∧ ∃ q, w' = (mvW w br ro be bp po bn no bf fo).drewN q := by
  have e1 := neq_same114 ⟨br, ro, none⟩ w
  go_enter Yba.func48, Yba.ntmps48
  go_wp2_with (first | (go_at_call 61; refine hm.mono ?_; clear hm; rintro e w' ⟨rfl, hq⟩))
  go_end0
  exact ⟨rfl, hq⟩
/-- Remove. -/
theorem remove51 (br ro be bp po bn no : Nat) (w : World) (n : Int) (v : Value) (h0 : w.cell? ⟨be, 2, none⟩ = some (pn br ro)) (hv : ∀ q, ((rmW w br ro be bp po bn no n).drewN q).cell? ⟨be, 3, none⟩ = some v)
    (hm : Calls Yba.prog 64 #[pn br ro, pn be 0] w fun e w' => e = .returned (.tuple #[]) ∧ ∃ q, w' = (rmW w br ro be bp po bn no n).drewN q) :
    Calls Yba.prog 51 #[pn br ro, pn be 0] w fun e w' => e = .returned v ∧ ∃ q, w' = (rmW w br ro be bp po bn no n).drewN q := by
  have e1 := eq_same114 ⟨br, ro, none⟩ w
  go_enter Yba.func51, Yba.ntmps51
  go_wp2_with (first | (go_at_call 64; refine hm.mono ?_; clear hm; rintro e w' ⟨rfl, q, rfl⟩; have hvq := hv q; clear hv; generalize hW : (rmW w br ro be bp po bn no n).drewN q = W at *; have HW : Hid ((rmW w br ro be bp po bn no n).drewN q = W) := hW; clear hW))
  go_ret
  exact ⟨rfl, q, HW.out.symm⟩
end Go.Proofs.Ybulkdpsg

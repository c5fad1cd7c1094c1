/- S5830C: container/list: PushFront. -/
import Derived.Test.YbulkdpsgD3
import Derived.Deep.OwnRows
namespace Go.Proofs.Ybulkdpsg
open Go Go.RowKit Go.Proofs Go.Lib
set_option linter.unusedVariables false
set_option linter.unusedSimpArgs false

theorem lazy62_same (br ro bn no : Nat) (w : World) (h : w.cell? ⟨br, ro, none⟩ = some (pn bn no)) : Calls Yba.prog 62 #[pn br ro] w fun e w' => e = .returned (.tuple #[]) ∧ w = w' := by
  go_enter Yba.func62, Yba.ntmps62
  go_wp2
  go_end0
  exact ⟨rfl, rfl⟩
def initW (w : World) (br ro : Nat) : World := ((w.setCell ⟨br, ro, none⟩ (.pointer (some ⟨br, ro, none⟩))).setCell ⟨br, ro + 1, none⟩ (.pointer (some ⟨br, ro, none⟩))).setCell ⟨br, ro + 4, none⟩ (.int .i64 0)
theorem lazy62_init (br ro : Nat) (w : World) (x1 x4 : Value) (c0 : w.cell? ⟨br, ro, none⟩ = some (.pointer none)) (c1 : w.cell? ⟨br, ro + 1, none⟩ = some x1) (c4 : w.cell? ⟨br, ro + 4, none⟩ = some x4) (f0 : w.frozen? ⟨br, ro, none⟩ = false) (f1 : w.frozen? ⟨br, ro + 1, none⟩ = false) (f4 : w.frozen? ⟨br, ro + 4, none⟩ = false) :
    Calls Yba.prog 62 #[pn br ro] w fun e w' => e = .returned (.tuple #[]) ∧ w' = initW w br ro := by
  have h := init68 br ro w _ _ _ c0 c1 c4 f0 f1 f4
  clear c1 c4 f0 f1 f4
  go_enter Yba.func62, Yba.ntmps62
  go_wp2_with (first | (go_at_call 68; refine h.mono ?_; clear h; rintro e w' ⟨rfl, hw⟩; have HW : Hid _ := hw; clear hw))
  go_end0
  exact ⟨rfl, HW.out⟩
theorem agg116 (w : World) : (isAgg 116).run Yba.prog w = .ok true w := by kernel_rfl
theorem size116 (w : World) : (Go.sizeOf 116).run Yba.prog w = .ok 4 w := by kernel_rfl
/-- insertValue: a new element, put in at the front. -/
theorem insval63 (br ro bn no : Nat) (w : World) (n : Int) (y : Value) (k : Int) (h3 : w.cell? ⟨br, ro, none⟩ = some (pn bn no)) (h4 : w.cell? ⟨bn, no + 1, none⟩ = some y) (h5 : w.cell? ⟨br, ro + 4, none⟩ = some (.int .i64 n))
    (f3 : w.frozen? ⟨br, ro, none⟩ = false) (f4 : w.frozen? ⟨bn, no + 1, none⟩ = false) (f5 : w.frozen? ⟨br, ro + 4, none⟩ = false)
    (hbr : br < w.heap.size) (hbn : bn < w.heap.size) (a1 : (⟨br, ro, none⟩ : Addr) ≠ ⟨bn, no + 1, none⟩) (a2 : (⟨bn, no + 1, none⟩ : Addr) ≠ ⟨br, ro + 4, none⟩) (hn : 0 ≤ n) (hn2 : n < 100) :
    Calls Yba.prog 63 #[pn br ro, .iface 3 (.int .i64 k), pn br ro] w fun e w' => e = .returned (pn w.heap.size 0) ∧ w' = insW (w.alloc (.cells #[.pointer none, .pointer none, .pointer none, .iface 3 (.int .i64 k)] 116)) br ro w.heap.size bn no n := by
  have hins : Calls Yba.prog 69 #[pn br ro, pn w.heap.size 0, pn br ro] (w.alloc (.cells #[.pointer none, .pointer none, .pointer none, .iface 3 (.int .i64 k)] 116)) fun e w' => e = .returned (pn w.heap.size 0) ∧ w' = insW (w.alloc (.cells #[.pointer none, .pointer none, .pointer none, .iface 3 (.int .i64 k)] 116)) br ro w.heap.size bn no n := by
    have old : ∀ a : Addr, a.block < w.heap.size → (w.alloc (.cells #[.pointer none, .pointer none, .pointer none, .iface 3 (.int .i64 k)] 116)).cell? a = w.cell? a := fun a ha => World.cell?_alloc_old w _ a (Nat.ne_of_lt ha)
    have oldf : ∀ a : Addr, a.block < w.heap.size → (w.alloc (.cells #[.pointer none, .pointer none, .pointer none, .iface 3 (.int .i64 k)] 116)).frozen? a = w.frozen? a := fun a ha => World.frozen?_of_block (w := w) (Deep.blk_alloc_lt _ _ _ ha)
    have R := World.rowIs_alloc w #[.pointer none, .pointer none, .pointer none, .iface 3 (.int .i64 k)] 116 (fun i => if i < 3 then .pointer none else .iface 3 (.int .i64 k)) (fun i hi => by
      rcases (show i = 0 ∨ i = 1 ∨ i = 2 ∨ i = 3 by simp at hi; omega) with rfl | rfl | rfl | rfl <;> rfl)
    exact insert69 br ro w.heap.size bn no _ n _ _ _ y (R.cell (i := 0) (by simp)) (R.cell (i := 1) (by simp)) (R.cell (i := 2) (by simp)) ((old _ hbr).trans h3) ((old _ hbn).trans h4) ((old _ hbr).trans h5)
      (R.frozen 0) (R.frozen 1) (R.frozen 2) ((oldf _ hbr).trans f3) ((oldf _ hbn).trans f4) ((oldf _ hbr).trans f5) (by omega) (by omega) a1 a2 hn hn2
  clear h3 h4 h5 f3 f4 f5 a1 a2
  obtain ⟨W, hW⟩ : ∃ W, w.alloc (.cells #[.pointer none, .pointer none, .pointer none, .iface 3 (.int .i64 k)] 116) = W := ⟨_, rfl⟩
  rw [hW] at hins
  have aE := agg116
  have zE := size116
  rw [show (fun e w' => e = Ending.returned (pn w.heap.size 0) ∧ w' = insW (w.alloc (.cells #[.pointer none, .pointer none, .pointer none, .iface 3 (.int .i64 k)] 116)) br ro w.heap.size bn no n) = (fun e w' => e = Ending.returned (pn w.heap.size 0) ∧ w' = insW W br ro w.heap.size bn no n) by rw [hW]]
  go_enter Yba.func63, Yba.ntmps63
  go_wp2_with (first | (go_at_call 69; refine hins.mono ?_; clear hins; rintro e w' ⟨rfl, hw⟩; have HW : Hid _ := hw; clear hw))
  go_ret
  exact ⟨rfl, HW.out⟩
/-- PushFront, the list made. -/
theorem push49 (br ro bn no : Nat) (w : World) (n : Int) (y : Value) (k : Int) (h3 : w.cell? ⟨br, ro, none⟩ = some (pn bn no)) (h4 : w.cell? ⟨bn, no + 1, none⟩ = some y) (h5 : w.cell? ⟨br, ro + 4, none⟩ = some (.int .i64 n))
    (f3 : w.frozen? ⟨br, ro, none⟩ = false) (f4 : w.frozen? ⟨bn, no + 1, none⟩ = false) (f5 : w.frozen? ⟨br, ro + 4, none⟩ = false)
    (hbr : br < w.heap.size) (hbn : bn < w.heap.size) (a1 : (⟨br, ro, none⟩ : Addr) ≠ ⟨bn, no + 1, none⟩) (a2 : (⟨bn, no + 1, none⟩ : Addr) ≠ ⟨br, ro + 4, none⟩) (hn : 0 ≤ n) (hn2 : n < 100) :
    Calls Yba.prog 49 #[pn br ro, .iface 3 (.int .i64 k)] w fun e w' => e = .returned (pn w.heap.size 0) ∧ w' = insW (w.alloc (.cells #[.pointer none, .pointer none, .pointer none, .iface 3 (.int .i64 k)] 116)) br ro w.heap.size bn no n := by
  have hl := lazy62_same br ro bn no w h3
  have hi := insval63 br ro bn no w n y k h3 h4 h5 f3 f4 f5 hbr hbn a1 a2 hn hn2
  clear h3 h4 h5 f3 f4 f5 a1 a2
  go_enter Yba.func49, Yba.ntmps49
  go_wp2_with (first | (go_at_call 62; refine hl.mono ?_; clear hl; rintro e w' ⟨rfl, rfl⟩) | (go_at_call 63; refine hi.mono ?_; clear hi; rintro e w' ⟨rfl, hw⟩; have HW : Hid _ := hw; clear hw))
  go_ret
  exact ⟨rfl, HW.out⟩
/-- PushFront, the list not yet made. -/
theorem push49_new (br ro : Nat) (w : World) (x1 x4 : Value) (k : Int) (c0 : w.cell? ⟨br, ro, none⟩ = some (.pointer none)) (c1 : w.cell? ⟨br, ro + 1, none⟩ = some x1) (c4 : w.cell? ⟨br, ro + 4, none⟩ = some x4) (f0 : w.frozen? ⟨br, ro, none⟩ = false) (f1 : w.frozen? ⟨br, ro + 1, none⟩ = false) (f4 : w.frozen? ⟨br, ro + 4, none⟩ = false) (hbr : br < w.heap.size) :
    Calls Yba.prog 49 #[pn br ro, .iface 3 (.int .i64 k)] w fun e w' => e = .returned (pn w.heap.size 0) ∧ w' = insW ((initW w br ro).alloc (.cells #[.pointer none, .pointer none, .pointer none, .iface 3 (.int .i64 k)] 116)) br ro w.heap.size br ro 0 := by
  have hl := lazy62_init br ro w x1 x4 c0 c1 c4 f0 f1 f4
  have hsz : (initW w br ro).heap.size = w.heap.size := by simp [initW, Deep.nblk_setCell]
  have hi := insval63 br ro br ro (initW w br ro) 0 (pn br ro) k
    (by unfold initW; rw [World.cell?_setCell_other _ _ _ _ (by simp), World.cell?_setCell_other _ _ _ _ (by simp)]; exact World.cell?_setCell_same _ _ _ c0)
    (by unfold initW; rw [World.cell?_setCell_other _ _ _ _ (by simp)]; exact World.cell?_setCell_same _ _ _ (by rw [World.cell?_setCell_other _ _ _ _ (by simp)]; exact c1))
    (by unfold initW; exact World.cell?_setCell_same _ _ _ (by rw [World.cell?_setCell_other _ _ _ _ (by simp), World.cell?_setCell_other _ _ _ _ (by simp)]; exact c4))
    (by unfold initW; rw [World.frozen?_setCell, World.frozen?_setCell, World.frozen?_setCell]; exact f0) (by unfold initW; rw [World.frozen?_setCell, World.frozen?_setCell, World.frozen?_setCell]; exact f1) (by unfold initW; rw [World.frozen?_setCell, World.frozen?_setCell, World.frozen?_setCell]; exact f4)
    (by rw [hsz]; exact hbr) (by rw [hsz]; exact hbr) (by simp) (by simp) (by omega) (by omega)
  rw [hsz] at hi
  clear c0 c1 c4 f0 f1 f4 hsz
  generalize initW w br ro = W at *
  go_enter Yba.func49, Yba.ntmps49
  go_wp2_with (first | (go_at_call 62; refine hl.mono ?_; clear hl; rintro e w' ⟨rfl, rfl⟩) | (go_at_call 63; refine hi.mono ?_; clear hi; rintro e w' ⟨rfl, hw⟩; have HW : Hid _ := hw; clear hw))
  go_ret
  exact ⟨rfl, HW.out⟩
end Go.Proofs.Ybulkdpsg

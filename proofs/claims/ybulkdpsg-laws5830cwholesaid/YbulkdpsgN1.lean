/- S5830C: newWorkers: its rows. -/
import Derived.Test.YbulkdpsgN0
import Derived.Test.YbulkdpsgP3
import Derived.Test.YbulkdpsgW1
namespace Go.Proofs.Ybulkdpsg
open Go Go.RowKit Go.Sort Go.Proofs Go.Lib
set_option linter.unusedVariables false
set_option linter.unusedSimpArgs false

theorem i120b : (Yba.prog.info? 120).map (fun i => (i.zero.map Value.cells, i.size, i.bytes)) = some (some #[.pointer none, .pointer none, .pointer none, .nilIface, .int .i64 0, .map none], 6, 56) := by kernel_rfl
def z6 : Array Value := #[.pointer none, .pointer none, .pointer none, .nilIface, .int .i64 0, .map none]
theorem mk109 (n : Nat) (hn : n ≤ 5000) (w : World) : (Instr.makeSlice 109 (.int .i64 (n : Int)) (.int .i64 (n : Int))).run Yba.prog w = .ok (.slice (some ⟨w.heap.size, 0, none⟩) n n) (w.alloc (.cells (madeCells z6 (n * 6)) 120)) := run_makeK 109 120 z6 6 56 Yba.underlying109 i120b n (by omega) (by omega) w
theorem al4 (w : World) (o1 o2 o3 o4 : Obj) : ((((w.alloc o1).alloc o2).alloc o3).alloc o4).heap[w.heap.size]? = some o1 ∧ ((((w.alloc o1).alloc o2).alloc o3).alloc o4).heap[w.heap.size + 1]? = some o2 ∧ ((((w.alloc o1).alloc o2).alloc o3).alloc o4).heap[w.heap.size + 1 + 1]? = some o3 ∧ ((((w.alloc o1).alloc o2).alloc o3).alloc o4).heap[w.heap.size + 1 + 1 + 1]? = some o4 ∧ Fr [] w ((((w.alloc o1).alloc o2).alloc o3).alloc o4) ∧ ((((w.alloc o1).alloc o2).alloc o3).alloc o4).heap.size = w.heap.size + 4 := by
  have hh : ((((w.alloc o1).alloc o2).alloc o3).alloc o4).heap = (((w.heap.push o1).push o2).push o3).push o4 := rfl
  refine ⟨?_, ?_, ?_, ?_, (((Fr.alloc _ _ _).trans (Fr.alloc _ _ _)).trans (Fr.alloc _ _ _)).trans (Fr.alloc _ _ _), ?_⟩
  all_goals rw [hh]
  all_goals simp only [Array.getElem?_push, Array.size_push]
  all_goals repeat (first | rw [if_pos trivial] | rw [if_neg (by omega)])
structure WMade (w w' : World) (nW nK sz : Nat) (pen : Int) (I : Ids) : Prop where
  rw_ : w'.rowIs I.bw 111 6 (wsF I nW nK sz pen nW)
  rf : w'.rowIs I.bf 3 nW (fun _ => .int .i64 0)
  rm : w'.rowIs I.bm 120 (nW * 6) (fun i => z6[i % 6]!)
  rh : w'.rowIs I.bh 48 nK (fun _ => .slice none 0 0)
  fr : Fr [] w w'
  sz : w'.heap.size = w.heap.size + 4
  n1 : w.heap.size ≤ I.bw ∧ w.heap.size ≤ I.bf ∧ w.heap.size ≤ I.bm ∧ w.heap.size ≤ I.bh
  n2 : I.bw ≠ I.bf ∧ I.bw ≠ I.bm ∧ I.bw ≠ I.bh ∧ I.bf ≠ I.bm ∧ I.bf ≠ I.bh ∧ I.bm ≠ I.bh
theorem rowOf {w : World} {b : Nat} {t : TypeId} {cs : Array Value} {n : Nat} {f : Nat → Value} (h : w.heap[b]? = some (.cells cs t)) (hn : cs.size = n) (hf : ∀ i, i < n → cs[i]? = some (f i)) : w.rowIs b t n f := ⟨cs, h, hn, hf⟩
theorem wmade {w w' : World} {nW nK sz : Nat} {pen : Int} {I : Ids} (h1 : w'.heap[I.bw]? = some (.cells #[.slice (some ⟨I.bf, 0, none⟩) nW nW, .int .i64 (nW : Int), .slice (some ⟨I.bm, 0, none⟩) nW nW, .int .i64 (sz : Int), .slice (some ⟨I.bh, 0, none⟩) nK nK, .int .i64 pen] 111))
    (h2 : w'.heap[I.bf]? = some (.cells (madeCells #[.int .i64 0] nW) 3)) (h3 : w'.heap[I.bm]? = some (.cells (madeCells z6 (nW * 6)) 120)) (h4 : w'.heap[I.bh]? = some (.cells (madeCells #[.slice none 0 0] nK) 48)) (hf : Fr [] w w') (hs : w'.heap.size = w.heap.size + 4)
    (n1 : w.heap.size ≤ I.bw ∧ w.heap.size ≤ I.bf ∧ w.heap.size ≤ I.bm ∧ w.heap.size ≤ I.bh) (n2 : I.bw ≠ I.bf ∧ I.bw ≠ I.bm ∧ I.bw ≠ I.bh ∧ I.bf ≠ I.bm ∧ I.bf ≠ I.bh ∧ I.bm ≠ I.bh) : WMade w w' nW nK sz pen I :=
  ⟨rowOf h1 rfl (fun i hi => by rcases (show i = 0 ∨ i = 1 ∨ i = 2 ∨ i = 3 ∨ i = 4 ∨ i = 5 by omega) with rfl | rfl | rfl | rfl | rfl | rfl <;> rfl),
   rowOf h2 (size_madeCells _ _) (fun i hi => by simp [madeCells, hi, Nat.mod_one]), rowOf h3 (size_madeCells _ _) (fun i hi => by simp [madeCells, hi]; rfl), rowOf h4 (size_madeCells _ _) (fun i hi => by simp [madeCells, hi, Nat.mod_one]), hf, hs, n1, n2⟩
theorem agg111 (w : World) : (isAgg 111).run Yba.prog w = .ok true w := by kernel_rfl
theorem size111 (w : World) : (Go.sizeOf 111).run Yba.prog w = .ok 6 w := by kernel_rfl
end Go.Proofs.Ybulkdpsg

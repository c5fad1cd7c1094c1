/- S5830C: newPinned: its rows. -/
import Derived.Test.YbulkdpsgP2
import Derived.Test.YbulkdpsgD2
import Derived.Deep.DeepCutAuto
namespace Go.Proofs.Ybulkdpsg
open Go Go.RowKit Go.Sort Go.Proofs Go.Lib
set_option linter.unusedVariables false
set_option linter.unusedSimpArgs false

theorem infoP3 : (Yba.prog.info? 3).map (fun i => (i.zero, i.size, i.bytes)) = some (some (.int .i64 0), 1, 8) := by kernel_rfl
theorem infoP48 : (Yba.prog.info? 48).map (fun i => (i.zero, i.size, i.bytes)) = some (some (.slice none 0 0), 1, 24) := by kernel_rfl
theorem mk48 (n : Nat) (hn : n ≤ 5000) (w : World) : (Instr.makeSlice 48 (.int .i64 (n : Int)) (.int .i64 (n : Int))).run Yba.prog w = .ok (.slice (some ⟨w.heap.size, 0, none⟩) n n) (w.alloc (.cells (madeCells #[.int .i64 0] n) 3)) := run_make_row' 48 3 (.int .i64 0) 8 Yba.underlying48 infoP3 rfl _ _ n (by omega) (by omega) w
theorem mk73 (n : Nat) (hn : n ≤ 5000) (w : World) : (Instr.makeSlice 73 (.int .i64 (n : Int)) (.int .i64 (n : Int))).run Yba.prog w = .ok (.slice (some ⟨w.heap.size, 0, none⟩) n n) (w.alloc (.cells (madeCells #[.slice none 0 0] n) 48)) := run_make_row' 73 48 (.slice none 0 0) 24 Yba.underlying73 infoP48 rfl _ _ n (by omega) (by omega) w
theorem agg122 (w : World) : (isAgg 122).run Yba.prog w = .ok true w := by kernel_rfl
theorem size122 (w : World) : (Go.sizeOf 122).run Yba.prog w = .ok 4 w := by kernel_rfl
/-- The pinned placement's rows, made. -/
structure PMade (w w' : World) (bt n bw nK nW bp bo bq : Nat) : Prop where
  row : w'.rowIs bp 122 4 (piF bt n bw bo nK bq nW)
  ro : w'.rowIs bo 3 nK (fun _ => .int .i64 0)
  rq : w'.rowIs bq 48 nW (fun _ => .slice none 0 0)
  fr : Fr [] w w'
  n1 : w.heap.size ≤ bp ∧ w.heap.size ≤ bo ∧ w.heap.size ≤ bq
  n2 : bp ≠ bo ∧ bp ≠ bq ∧ bo ≠ bq
theorem four' {P : Nat → Prop} (h0 : P 0) (h1 : P 1) (h2 : P 2) (h3 : P 3) : ∀ i, i < 4 → P i := fun i hi => by
  rcases (show i = 0 ∨ i = 1 ∨ i = 2 ∨ i = 3 by omega) with rfl | rfl | rfl | rfl <;> assumption
theorem pmade_a (w : World) (bt n bw nK nW : Nat) : PMade w (((w.alloc (.cells (madeCells #[.int .i64 0] nK) 3)).alloc (.cells (madeCells #[.slice none 0 0] nW) 48)).alloc (.cells #[.slice (some ⟨bt, 0, none⟩) n n, pn bw 0, .slice (some ⟨w.heap.size, 0, none⟩) nK nK, .slice (some ⟨w.heap.size + 1, 0, none⟩) nW nW] 122)) bt n bw nK nW (w.heap.size + 1 + 1) w.heap.size (w.heap.size + 1) := by
  have h1 := World.rowIs_made w (.int .i64 0) nK 3
  have h2 := World.rowIs_made (w.alloc (.cells (madeCells #[.int .i64 0] nK) 3)) (.slice none 0 0) nW 48
  have h3 := World.rowIs_alloc ((w.alloc (.cells (madeCells #[.int .i64 0] nK) 3)).alloc (.cells (madeCells #[.slice none 0 0] nW) 48)) #[.slice (some ⟨bt, 0, none⟩) n n, pn bw 0, .slice (some ⟨w.heap.size, 0, none⟩) nK nK, .slice (some ⟨w.heap.size + 1, 0, none⟩) nW nW] 122 (piF bt n bw w.heap.size nK (w.heap.size + 1) nW) (four' rfl rfl rfl rfl)
  have e1 : (w.alloc (.cells (madeCells #[.int .i64 0] nK) 3)).heap.size = w.heap.size + 1 := by simp
  have e2 : ((w.alloc (.cells (madeCells #[.int .i64 0] nK) 3)).alloc (.cells (madeCells #[.slice none 0 0] nW) 48)).heap.size = w.heap.size + 1 + 1 := by simp
  rw [e1] at h2
  rw [e2] at h3
  exact ⟨h3, (h1.alloc _).alloc _, h2.alloc _, ((Fr.alloc _ _ _).trans (Fr.alloc _ _ _)).trans (Fr.alloc _ _ _), ⟨by omega, by omega, by omega⟩, ⟨by omega, by omega, by omega⟩⟩
theorem pmade_b (w : World) (bt n bw nK nW : Nat) : PMade w (((w.alloc (.cells (madeCells #[.slice none 0 0] nW) 48)).alloc (.cells (madeCells #[.int .i64 0] nK) 3)).alloc (.cells #[.slice (some ⟨bt, 0, none⟩) n n, pn bw 0, .slice (some ⟨w.heap.size + 1, 0, none⟩) nK nK, .slice (some ⟨w.heap.size, 0, none⟩) nW nW] 122)) bt n bw nK nW (w.heap.size + 1 + 1) (w.heap.size + 1) w.heap.size := by
  have h1 := World.rowIs_made w (.slice none 0 0) nW 48
  have h2 := World.rowIs_made (w.alloc (.cells (madeCells #[.slice none 0 0] nW) 48)) (.int .i64 0) nK 3
  have h3 := World.rowIs_alloc ((w.alloc (.cells (madeCells #[.slice none 0 0] nW) 48)).alloc (.cells (madeCells #[.int .i64 0] nK) 3)) #[.slice (some ⟨bt, 0, none⟩) n n, pn bw 0, .slice (some ⟨w.heap.size + 1, 0, none⟩) nK nK, .slice (some ⟨w.heap.size, 0, none⟩) nW nW] 122 (piF bt n bw (w.heap.size + 1) nK w.heap.size nW) (four' rfl rfl rfl rfl)
  have e1 : (w.alloc (.cells (madeCells #[.slice none 0 0] nW) 48)).heap.size = w.heap.size + 1 := by simp
  have e2 : ((w.alloc (.cells (madeCells #[.slice none 0 0] nW) 48)).alloc (.cells (madeCells #[.int .i64 0] nK) 3)).heap.size = w.heap.size + 1 + 1 := by simp
  rw [e1] at h2
  rw [e2] at h3
  exact ⟨h3, h2.alloc _, (h1.alloc _).alloc _, ((Fr.alloc _ _ _).trans (Fr.alloc _ _ _)).trans (Fr.alloc _ _ _), ⟨by omega, by omega, by omega⟩, ⟨by omega, by omega, by omega⟩⟩
theorem PMade.drew {w w' : World} {bt n bw nK nW bp bo bq : Nat} (h : PMade w w' bt n bw nK nW bp bo bq) : PMade w w'.drew bt n bw nK nW bp bo bq := ⟨h.row, h.ro, h.rq, ⟨h.fr.os, h.fr.tape, h.fr.output, h.fr.size, h.fr.block⟩, h.n1, h.n2⟩
end Go.Proofs.Ybulkdpsg

/- S5830C: newPinned: a key's bytes, its hash. -/
import Derived.Test.YbulkdpsgP3
import Derived.Laws.IdiomStrings
namespace Go.Proofs.Ybulkdpsg
open Go Go.RowKit Go.Sort Go.Proofs Go.Lib
set_option linter.unusedVariables false
theorem md_fnv (x : Value) (w : World) : (method 310 154 x "Write").run Yba.prog w = .ok (119, x) w ∧ (method 310 154 x "Sum32").run Yba.prog w = .ok (118, x) w := ⟨by kernel_rfl, by kernel_rfl⟩
theorem cf119 (args : Array Value) (w : World) : (callFunc 119 args).run Yba.prog w = .ok (.enter 119 args) w := by kernel_rfl
theorem cf118 (args : Array Value) (w : World) : (callFunc 118 args).run Yba.prog w = .ok (.enter 118 args) w := by kernel_rfl
theorem und9 : Yba.prog.underlying 9 = some .string := by kernel_rfl
theorem und130 : Yba.prog.underlying 130 = some (.slice 5) := by kernel_rfl
theorem und5 : Yba.prog.underlying 5 = some (.int .u8) := by kernel_rfl
theorem bytes_conv (W : World) (s : ByteArray) : ∃ cap W', (convert 9 130 (.string s)).run Yba.prog W = .ok (.slice (some ⟨W.heap.size, 0, none⟩) s.size cap) W' ∧ Bytes W' (some ⟨W.heap.size, 0, none⟩) s ∧ Fr [] W W' ∧ W'.heap.size = W.heap.size + 1 := by
  refine ⟨_, _, run_bytes_of_string W 9 130 5 s und9 und130 und5, fun i hi => ⟨W.heap.size, 0, rfl, by simp, ?_⟩, ⟨rfl, rfl, rfl, by simp, fun k hk _ => Deep.blk_alloc_lt W.drew _ k hk⟩, by simp⟩
  have hb := Deep.blk_alloc_new W.drew (.cells (bytesRow s (grownCap W s.size 0 5)) 5 ((bytesRow s (grownCap W s.size 0 5)).size, (bytesRow s (grownCap W s.size 0 5)).size + 1))
  rw [show W.drew.heap.size = W.heap.size from rfl] at hb
  simp only [World.cell?, hb]
  rw [Nat.zero_add]
  rw [bytesRow_at s _ i hi, getElem!_pos s i hi]
  rfl
end Go.Proofs.Ybulkdpsg

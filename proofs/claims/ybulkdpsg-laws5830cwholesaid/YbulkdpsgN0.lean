/- S5830C: make of rows whose elements take several cells. -/
import Derived.Test.YbulkdpsgRows
import Derived.WalkKit
import Derived.WalkSpells
import Derived.WalkLawsBesides
import Derived.ProofKit
import Derived.Deep.OwnRows
namespace Go.Proofs.Ybulkdpsg
open Go Go.RowKit Go.Proofs Go.Lib
set_option linter.unusedVariables false
set_option linter.unusedSimpArgs false

theorem run_makeK {P : Program} (t e : TypeId) (zs : Array Value) (size bytes : Nat) (ht : P.underlying t = some (.slice e)) (hinfo : (P.info? e).map (fun i => (i.zero.map Value.cells, i.size, i.bytes)) = some (some zs, size, bytes)) (n : Nat) (hbytes : bytes * n ≤ 281474976710656) (h63 : n ≤ 9223372036854775807) (w : World) :
    (Instr.makeSlice t (.int .i64 (n : Int)) (.int .i64 (n : Int))).run P w = .ok (.slice (some ⟨w.heap.size, 0, none⟩) n n) (w.alloc (.cells (madeCells zs (n * size)) e)) := by
  obtain ⟨i, hi, hzz⟩ := Option.map_eq_some_iff.1 hinfo
  simp only [Prod.mk.injEq] at hzz
  obtain ⟨hz, hs, hb⟩ := hzz
  obtain ⟨z, hz1, hz2⟩ := Option.map_eq_some_iff.1 hz
  have hb2 : (i.bytes : Int) * (n : Int) ≤ 281474976710656 := by
    have : ((bytes * n : Nat) : Int) ≤ 281474976710656 := by omega
    rw [hb]
    rwa [Int.natCast_mul] at this
  have hr := run_make (P := P) w t e i z ht hi hz1 .i64 .i64 (n : Int) (n : Int) (by omega) (Int.le_refl _) hb2 (by omega)
  simp only [Int.toNat_natCast] at hr
  rw [hr, hz2, hs]
theorem rowIs_madeK (w : World) (zs : Array Value) (m : Nat) (t : TypeId) : (w.alloc (.cells (madeCells zs m) t)).rowIs w.heap.size t m (fun i => zs[i % zs.size]!) :=
  ⟨_, Deep.blk_alloc_new _ _, size_madeCells _ _, fun i hi => by simp [madeCells, hi]⟩
theorem i120 : (Yba.prog.info? 120).map (fun i => (i.zero.map Value.cells, i.size)) = some (some #[.pointer none, .pointer none, .pointer none, .nilIface, .int .i64 0, .map none], 6) := by kernel_rfl
theorem i105 : (Yba.prog.info? 105).map (fun i => (i.zero.map Value.cells, i.size, i.bytes)) = some (some #[.int .i64 0, .int .i64 0, .int .i64 0, .int .i64 0, .int .i64 0], 5, 40) := by kernel_rfl
theorem i79 : (Yba.prog.info? 79).map (fun i => (i.zero.map Value.cells, i.size, i.bytes)) = some (some #[.int .i64 0, .int .i64 0, .int .i64 0, .bool false], 4, 32) := by kernel_rfl
theorem i138 : (Yba.prog.info? 138).map (fun i => (i.zero.map Value.cells, i.size, i.bytes)) = some (some #[.slice none 0 0, .map none], 2, 32) := by kernel_rfl
theorem i54 : (Yba.prog.info? 54).map (fun i => (i.zero.map Value.cells, i.size, i.bytes)) = some (some #[.int .i64 0, .int .i64 0, .int .i64 0, .string ⟨#[]⟩], 4, 40) := by kernel_rfl
theorem i4 : (Yba.prog.info? 4).map (fun i => (i.zero.map Value.cells, i.size, i.bytes)) = some (some #[.bool false], 1, 1) := by kernel_rfl
theorem i44 : (Yba.prog.info? 44).map (fun i => (i.zero.map Value.cells, i.size, i.bytes)) = some (some #[.int .i64 0], 1, 8) := by kernel_rfl
theorem i9 : (Yba.prog.info? 9).map (fun i => (i.zero.map Value.cells, i.size, i.bytes)) = some (some #[.string ⟨#[]⟩], 1, 16) := by kernel_rfl
end Go.Proofs.Ybulkdpsg

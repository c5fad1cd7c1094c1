/- S5830C: fnv. -/
import Derived.Test.YbulkdpsgD1
namespace Go.Proofs.Ybulkdpsg
open Go Go.RowKit Go.Proofs Go.Lib
set_option linter.unusedVariables false
def fnvS (z : Int) (b : UInt8) : Int := bits .xor .u32 z ((b.toNat : Int) % 4294967296) * 16777619 % 4294967296
def fnvTo (s : ByteArray) : Nat → Int
  | 0 => 2166136261
  | j + 1 => fnvS (fnvTo s j) s[j]!
set_option maxHeartbeats 1000000 in
theorem fnv12 (s : ByteArray) (w : World) (hs : s.size ≤ 4) : Calls Yba.prog 12 #[.string s] w fun e w' => e = .returned (.int .u32 (fnvTo s s.size)) ∧ w = w' := by
  go_enter Yba.func12, Yba.ntmps12
  go_wp2
  go_loopw [3, 4] (fun h i wr => ∃ (j : Nat) (z : Int), i = .int .i64 (j : Int) ∧ h = .int .u32 z ∧ j ≤ s.size ∧ w = wr ∧ Hid (z = fnvTo s j)) (fun h i _ => s.size - (intOf i).toNat)
  case atStart => exact ⟨0, 2166136261, rfl, rfl, Nat.zero_le _, rfl, rfl⟩
  case round =>
    obtain ⟨j, z, rfl, rfl, hj, rfl, HZ⟩ := hrel
    by_cases hlt : j < s.size
    · have HG : Hid (s[j] = s[j]!) := (getElem!_pos s j hlt).symm
      go_wp2
      refine ⟨⟨j + 1, _, by go_num, rfl, by omega, trivial, ?_⟩, by simp [intOf]; omega⟩
      show _ = fnvS (fnvTo s j) s[j]!
      rw [← HZ.out, ← HG.out]
      rfl
    · obtain rfl : j = s.size := by omega
      go_wp2
      go_ret
      exact ⟨by rw [HZ.out]; rfl, rfl⟩

/-- The bytes of s. -/
def Bytes (w : World) (ad : Option Addr) (s : ByteArray) : Prop := ∀ i, i < s.size → ∃ b off, ad = some ⟨b, off, none⟩ ∧ b < w.heap.size ∧ w.cell? ⟨b, off + i, none⟩ = some (.int .u8 (s[i]!.toNat : Int))

theorem sum118 (bp : Nat) (z : Int) (w : World) (h : w.cell? ⟨bp, 0, none⟩ = some (.int .u32 z)) : Calls Yba.prog 118 #[.pointer (some ⟨bp, 0, none⟩)] w fun e w' => e = .returned (.int .u32 z) ∧ w = w' := by
  go_enter Yba.func118, Yba.ntmps118
  go_wp2
  go_ret
  exact ⟨rfl, rfl⟩
theorem new35 (w : World) : Calls Yba.prog 35 #[] w fun e w' => e = .returned (.iface 154 (.pointer (some ⟨w.heap.size, 0, none⟩))) ∧ w' = w.alloc (.cells #[.int .u32 2166136261] 153) := by
  go_enter Yba.func35, Yba.ntmps35
  go_wp2
  go_ret
  exact ⟨rfl, rfl⟩
set_option maxHeartbeats 1000000 in
theorem write119 (bp cap : Nat) (ad : Option Addr) (s : ByteArray) (w : World) (hs : s.size ≤ 4) (h : w.cell? ⟨bp, 0, none⟩ = some (.int .u32 2166136261)) (hf : w.frozen? ⟨bp, 0, none⟩ = false) (H : Bytes w ad s) :
    Calls Yba.prog 119 #[.pointer (some ⟨bp, 0, none⟩), .slice ad s.size cap] w fun e w' => e = .returned (.tuple #[.int .i64 (s.size : Int), .nilIface]) ∧ w' = w.setCell ⟨bp, 0, none⟩ (.int .u32 (fnvTo s s.size)) := by
  have HH : Hid (Bytes w ad s) := H
  clear H
  go_enter Yba.func119, Yba.ntmps119
  go_wp2
  go_loopw [6, 14] (fun h i wr => ∃ (j : Nat) (z : Int), i = .int .i64 (j : Int) ∧ h = .int .u32 z ∧ j ≤ s.size ∧ w = wr ∧ Hid (z = fnvTo s j)) (fun h i _ => s.size - (intOf i).toNat)
  case atStart => exact ⟨0, 2166136261, rfl, rfl, Nat.zero_le _, rfl, rfl⟩
  case round =>
    obtain ⟨j, z, rfl, rfl, hj, rfl, HZ⟩ := hrel
    by_cases hlt : j < s.size
    · obtain ⟨b, off, rfl, hb, hc⟩ := HH.out j hlt
      generalize hx : s[j]! = x at hc
      have HX : Hid (s[j]! = x) := hx
      clear hx
      go_wp2
      refine ⟨⟨j + 1, _, by go_num, rfl, by omega, trivial, ?_⟩, by simp [intOf]; omega⟩
      show _ = fnvS (fnvTo s j) s[j]!
      rw [← HZ.out, HX.out]
      rfl
    · obtain rfl : j = s.size := by omega
      go_wp2
      go_ret2
      exact ⟨rfl, by rw [HZ.out]⟩
end Go.Proofs.Ybulkdpsg

import Derived.Test.YbulkdptiRows
import Derived.WalkKit
import Derived.WalkSpells
import Derived.WalkLawsBesides
import Derived.ProofKit
import Derived.Lib.SliceRun
import Derived.Deep.RegionWith
namespace Go.Proofs.Ybulkdpti
open Go.RowKit

/-- An int's value. -/
abbrev I (n : Int) : Value := .int .i64 n
/-- An address as a value. -/
abbrev Adr (a i p t m q s u : Int) : Value := .agg #[.int .i64 a, .int .i64 i, .int .i64 p, .int .i64 t, .int .i64 m, .int .i64 q, .int .i64 s, .int .i64 u]

theorem nums_any (a i p t m q s u : Int) (w : World) :
    Calls Yba.prog 11 #[.agg #[.int .i64 a, .int .i64 i, .int .i64 p, .int .i64 t, .int .i64 m, .int .i64 q, .int .i64 s, .int .i64 u]] w fun e w' => e = .returned (.agg #[.int .i64 a, .int .i64 p, .int .i64 t, .int .i64 u]) ∧ Below w.heap.size w w' := by
  go_enter Yba.func11, Yba.ntmps11
  go_wp2
  exact bodyPost_ret (v := .agg #[.int .i64 a, .int .i64 p, .int .i64 t, .int .i64 u]) (by simp [results, Yba.results11, go_sem]) rfl ⟨rfl, ((Below.refl _ _).alloc (Nat.le_refl _) _).alloc (by simp) _⟩

theorem level_any (a p t u i : Int) (w : World) :
    Calls Yba.prog 13 #[.agg #[.int .i64 a, .int .i64 p, .int .i64 t, .int .i64 u], .int .i64 i] w fun e w' => e = .returned (.agg #[.int .i64 a, .int .i64 i, .int .i64 p, .int .i64 t, .int .i64 0, .int .i64 0, .int .i64 0, .int .i64 u]) ∧ Below w.heap.size w w' := by
  go_enter Yba.func13, Yba.ntmps13
  go_wp2
  exact bodyPost_ret (v := .agg #[.int .i64 a, .int .i64 i, .int .i64 p, .int .i64 t, .int .i64 0, .int .i64 0, .int .i64 0, .int .i64 u]) (by simp [results, Yba.results13, go_sem]) rfl ⟨rfl, ((Below.refl _ _).alloc (Nat.le_refl _) _).alloc (by simp) _⟩

theorem bcell {W w1 : World} (hb : Below W.heap.size W w1) : (∀ b o, b < W.heap.size → w1.cell? ⟨b, o, none⟩ = W.cell? ⟨b, o, none⟩) ∧ (∀ b o, b < W.heap.size → w1.frozen? ⟨b, o, none⟩ = W.frozen? ⟨b, o, none⟩) :=
  ⟨fun b o h => hb.cell (p := ⟨b, o, none⟩) h, fun b o h => hb.frozen (p := ⟨b, o, none⟩) h⟩

/-- How deep an address goes. -/
def dep (p t u : Int) : Int := if p = 0 then 0 else if t = 0 then 1 else if u = 0 then 2 else 3

set_option maxHeartbeats 400000 in
theorem depth_any (a i p t m q s u : Int) (w : World) :
    Calls Yba.prog 9 #[.agg #[.int .i64 a, .int .i64 i, .int .i64 p, .int .i64 t, .int .i64 m, .int .i64 q, .int .i64 s, .int .i64 u]] w fun e w' => e = .returned (.int .i64 (dep p t u)) ∧ Below w.heap.size w w' := by
  by_cases hp : p = 0
  · subst hp
    rw [show dep 0 t u = 0 from rfl]
    go_enter Yba.func9, Yba.ntmps9
    go_wp2_with (go_at_call 11; refine (nums_any _ _ _ _ _ _ _ _ _).mono ?_; rintro e w1 ⟨rfl, hb⟩)
    refine wp_loop_rounds 1 ?_
    rw [rounds_succ]
    go_wp2
    go_ret
    exact ⟨rfl, ((Below.refl _ _).alloc (Nat.le_refl _) _).trans (((hb.mono (by simp))).alloc (by have := hb.size; simp at this; omega) _)⟩
  by_cases ht : t = 0
  · subst ht
    rw [show dep p 0 u = 1 from by simp [dep, hp]]
    have hp' : (p != 0) = true := by simpa using hp
    go_enter Yba.func9, Yba.ntmps9
    go_wp2_with (go_at_call 11; refine (nums_any _ _ _ _ _ _ _ _ _).mono ?_; rintro e w1 ⟨rfl, hb⟩)
    refine wp_loop_rounds 2 ?_
    rw [rounds_succ]
    go_wp2
    rw [rounds_succ]
    go_wp2
    go_ret
    exact ⟨rfl, ((Below.refl _ _).alloc (Nat.le_refl _) _).trans (((hb.mono (by simp))).alloc (by have := hb.size; simp at this; omega) _)⟩
  by_cases hu : u = 0
  · subst hu
    rw [show dep p t 0 = 2 from by simp [dep, hp, ht]]
    have hp' : (p != 0) = true := by simpa using hp
    have ht' : (t != 0) = true := by simpa using ht
    go_enter Yba.func9, Yba.ntmps9
    go_wp2_with (go_at_call 11; refine (nums_any _ _ _ _ _ _ _ _ _).mono ?_; rintro e w1 ⟨rfl, hb⟩)
    refine wp_loop_rounds 3 ?_
    rw [rounds_succ]
    go_wp2
    rw [rounds_succ]
    go_wp2
    rw [rounds_succ]
    go_wp2
    go_ret
    exact ⟨rfl, ((Below.refl _ _).alloc (Nat.le_refl _) _).trans (((hb.mono (by simp))).alloc (by have := hb.size; simp at this; omega) _)⟩
  · rw [show dep p t u = 3 from by simp [dep, hp, ht, hu]]
    have hp' : (p != 0) = true := by simpa using hp
    have ht' : (t != 0) = true := by simpa using ht
    have hu' : (u != 0) = true := by simpa using hu
    go_enter Yba.func9, Yba.ntmps9
    go_wp2_with (go_at_call 11; refine (nums_any _ _ _ _ _ _ _ _ _).mono ?_; rintro e w1 ⟨rfl, hb⟩)
    refine wp_loop_rounds 4 ?_
    rw [rounds_succ]
    go_wp2
    rw [rounds_succ]
    go_wp2
    rw [rounds_succ]
    go_wp2
    rw [rounds_succ]
    go_wp2
    go_ret
    exact ⟨rfl, ((Below.refl _ _).alloc (Nat.le_refl _) _).trans (((hb.mono (by simp))).alloc (by have := hb.size; simp at this; omega) _)⟩

theorem zero3 : ∀ w, (zeroValue 3).run Yba.prog w = .ok (.int .i64 0) w := fun _ => by kernel_rfl
theorem clear2 (wx : World) (x0 x1 x2 x3 : Value) : (Builtin.clear_ #[43] 0 #[.slice (some ⟨wx.heap.size, 2, none⟩) 2 2]).run Yba.prog (wx.alloc (.cells #[x0, x1, x2, x3] 39)) = .ok (.tuple #[]) (wx.alloc (.cells #[x0, x1, .int .i64 0, .int .i64 0] 39)) := by
  rw [Lib.run_clear_slice _ 43 3 0 (.int .i64 0) Yba.underlying43 zero3 rfl rfl wx.heap.size 2 2 2 (by decide)]
  · simp [World.setCells, go_sem]
  · intro j hj; match j, hj with
    | 0, _ => simp [go_sem]
    | 1, _ => simp [go_sem]
  · intro j hj; simp [go_sem]
theorem clear1 (wx : World) (x0 x1 x2 x3 : Value) : (Builtin.clear_ #[43] 0 #[.slice (some ⟨wx.heap.size, 3, none⟩) 1 1]).run Yba.prog (wx.alloc (.cells #[x0, x1, x2, x3] 39)) = .ok (.tuple #[]) (wx.alloc (.cells #[x0, x1, x2, .int .i64 0] 39)) := by
  rw [Lib.run_clear_slice _ 43 3 0 (.int .i64 0) Yba.underlying43 zero3 rfl rfl wx.heap.size 3 1 1 (by decide)]
  · simp [World.setCells, go_sem]
  · intro j hj; match j, hj with
    | 0, _ => simp [go_sem]
  · intro j hj; simp [go_sem]
theorem clear0 (wx : World) (ad : Option Addr) (c : Nat) : (Builtin.clear_ #[43] 0 #[.slice ad 0 c]).run Yba.prog wx = .ok (.tuple #[]) wx := by
  cases ad <;> simp [Builtin.clear_, run_underlying Yba.underlying43]

set_option maxHeartbeats 400000 in
theorem upTo_1 (a i p t m q s u : Int) (w : World) :
    Calls Yba.prog 12 #[.agg #[.int .i64 a, .int .i64 i, .int .i64 p, .int .i64 t, .int .i64 m, .int .i64 q, .int .i64 s, .int .i64 u], .int .i64 1] w fun e w' => e = .returned (.agg #[.int .i64 a, .int .i64 i, .int .i64 p, .int .i64 0, .int .i64 0, .int .i64 0, .int .i64 0, .int .i64 0]) ∧ Below w.heap.size w w' := by
  have hcl := clear2
  go_enter Yba.func12, Yba.ntmps12
  go_wp2_with (first | (go_at_call 11; refine (nums_any _ _ _ _ _ _ _ _ _).mono ?_; rintro e w1 ⟨rfl, hb⟩; obtain ⟨hc, hf⟩ := bcell hb; have hz : w.heap.size < w1.heap.size := (by have := hb.size; simp at this; omega); have hz' : w.heap.size + 1 < w1.heap.size := (by have := hb.size; simp at this; omega)) | (go_at_call 13; refine (level_any _ _ _ _ _ _).mono ?_; rintro e w2 ⟨rfl, hb2⟩; obtain ⟨hc2, hf2⟩ := bcell hb2; have hz2 : w1.heap.size < w2.heap.size := (by have := hb2.size; simp at this; omega)))
  refine bodyPost_ret (v := .agg #[.int .i64 a, .int .i64 i, .int .i64 p, .int .i64 0, .int .i64 0, .int .i64 0, .int .i64 0, .int .i64 0]) (by simp [results, Yba.results12, go_sem, hc, hc2, hz, hz']) rfl ⟨rfl, ?_⟩
  have B1 := (((Below.refl w.heap.size w).alloc (Nat.le_refl _) _).alloc (by simp) _).trans (hb.mono (by simp; omega))
  have B2 := (B1.alloc B1.size _).trans (hb2.mono (by simp; omega))
  exact (((((((B2.setCell (by simp) _).setCell (by simp) _).setCell (by simp) _).setCell (by simp) _).setCell (by simp) _).setCell (by simp) _).setCell (by simp) _).setCell (by simp) _

set_option maxHeartbeats 400000 in
theorem upTo_2 (a i p t m q s u : Int) (w : World) :
    Calls Yba.prog 12 #[.agg #[.int .i64 a, .int .i64 i, .int .i64 p, .int .i64 t, .int .i64 m, .int .i64 q, .int .i64 s, .int .i64 u], .int .i64 2] w fun e w' => e = .returned (.agg #[.int .i64 a, .int .i64 i, .int .i64 p, .int .i64 t, .int .i64 0, .int .i64 0, .int .i64 0, .int .i64 0]) ∧ Below w.heap.size w w' := by
  have hcl := clear1
  go_enter Yba.func12, Yba.ntmps12
  go_wp2_with (first | (go_at_call 11; refine (nums_any _ _ _ _ _ _ _ _ _).mono ?_; rintro e w1 ⟨rfl, hb⟩; obtain ⟨hc, hf⟩ := bcell hb; have hz : w.heap.size < w1.heap.size := (by have := hb.size; simp at this; omega); have hz' : w.heap.size + 1 < w1.heap.size := (by have := hb.size; simp at this; omega)) | (go_at_call 13; refine (level_any _ _ _ _ _ _).mono ?_; rintro e w2 ⟨rfl, hb2⟩; obtain ⟨hc2, hf2⟩ := bcell hb2; have hz2 : w1.heap.size < w2.heap.size := (by have := hb2.size; simp at this; omega)))
  refine bodyPost_ret (v := .agg #[.int .i64 a, .int .i64 i, .int .i64 p, .int .i64 t, .int .i64 0, .int .i64 0, .int .i64 0, .int .i64 0]) (by simp [results, Yba.results12, go_sem, hc, hc2, hz, hz']) rfl ⟨rfl, ?_⟩
  have B1 := (((Below.refl w.heap.size w).alloc (Nat.le_refl _) _).alloc (by simp) _).trans (hb.mono (by simp; omega))
  have B2 := (B1.alloc B1.size _).trans (hb2.mono (by simp; omega))
  exact (((((((B2.setCell (by simp) _).setCell (by simp) _).setCell (by simp) _).setCell (by simp) _).setCell (by simp) _).setCell (by simp) _).setCell (by simp) _).setCell (by simp) _

set_option maxHeartbeats 400000 in
theorem upTo_3 (a i p t m q s u : Int) (w : World) :
    Calls Yba.prog 12 #[.agg #[.int .i64 a, .int .i64 i, .int .i64 p, .int .i64 t, .int .i64 m, .int .i64 q, .int .i64 s, .int .i64 u], .int .i64 3] w fun e w' => e = .returned (.agg #[.int .i64 a, .int .i64 i, .int .i64 p, .int .i64 t, .int .i64 0, .int .i64 0, .int .i64 0, .int .i64 u]) ∧ Below w.heap.size w w' := by
  have hcl := clear0
  go_enter Yba.func12, Yba.ntmps12
  go_wp2_with (first | (go_at_call 11; refine (nums_any _ _ _ _ _ _ _ _ _).mono ?_; rintro e w1 ⟨rfl, hb⟩; obtain ⟨hc, hf⟩ := bcell hb; have hz : w.heap.size < w1.heap.size := (by have := hb.size; simp at this; omega); have hz' : w.heap.size + 1 < w1.heap.size := (by have := hb.size; simp at this; omega)) | (go_at_call 13; refine (level_any _ _ _ _ _ _).mono ?_; rintro e w2 ⟨rfl, hb2⟩; obtain ⟨hc2, hf2⟩ := bcell hb2; have hz2 : w1.heap.size < w2.heap.size := (by have := hb2.size; simp at this; omega)))
  refine bodyPost_ret (v := .agg #[.int .i64 a, .int .i64 i, .int .i64 p, .int .i64 t, .int .i64 0, .int .i64 0, .int .i64 0, .int .i64 u]) (by simp [results, Yba.results12, go_sem, hc, hc2, hz, hz']) rfl ⟨rfl, ?_⟩
  have B1 := (((Below.refl w.heap.size w).alloc (Nat.le_refl _) _).alloc (by simp) _).trans (hb.mono (by simp; omega))
  have B2 := (B1.alloc B1.size _).trans (hb2.mono (by simp; omega))
  exact (((((((B2.setCell (by simp) _).setCell (by simp) _).setCell (by simp) _).setCell (by simp) _).setCell (by simp) _).setCell (by simp) _).setCell (by simp) _).setCell (by simp) _

set_option maxHeartbeats 400000 in
theorem at_1 (a i p t m q s u n : Int) (w : World) :
    Calls Yba.prog 10 #[.agg #[.int .i64 a, .int .i64 i, .int .i64 p, .int .i64 t, .int .i64 m, .int .i64 q, .int .i64 s, .int .i64 u], .int .i64 1, .int .i64 n] w fun e w' => e = .returned (.agg #[.int .i64 a, .int .i64 i, .int .i64 n, .int .i64 0, .int .i64 0, .int .i64 0, .int .i64 0, .int .i64 0]) ∧ Below w.heap.size w w' := by
  go_enter Yba.func10, Yba.ntmps10
  go_wp2_with (first | (go_at_call 12; refine (upTo_1 _ _ _ _ _ _ _ _ _).mono ?_; rintro e w1 ⟨rfl, hb⟩; obtain ⟨hc, hf⟩ := bcell hb; have hz : w.heap.size < w1.heap.size := (by have := hb.size; simp at this; omega); have hz' : w.heap.size + 1 < w1.heap.size := (by have := hb.size; simp at this; omega)) | (go_at_call 11; refine (nums_any _ _ _ _ _ _ _ _ _).mono ?_; rintro e w2 ⟨rfl, hb2⟩; obtain ⟨hc2, hf2⟩ := bcell hb2; have hz2 : w.heap.size < w2.heap.size := (by have := hb2.size; omega); have hz2' : w.heap.size + 1 < w2.heap.size := (by have := hb2.size; omega)) | (go_at_call 13; refine (level_any _ _ _ _ _ _).mono ?_; rintro e w3 ⟨rfl, hb3⟩; obtain ⟨hc3, hf3⟩ := bcell hb3; have hz3 : w2.heap.size < w3.heap.size := (by have := hb3.size; simp at this; omega)))
  refine bodyPost_ret (v := .agg #[.int .i64 a, .int .i64 i, .int .i64 n, .int .i64 0, .int .i64 0, .int .i64 0, .int .i64 0, .int .i64 0]) (by simp [results, Yba.results10, go_sem, hc, hc2, hc3, hz', hz2, hz2']) rfl ⟨rfl, ?_⟩
  have B1 := (((Below.refl w.heap.size w).alloc (Nat.le_refl _) _).alloc (by simp) _).trans (hb.mono (by simp; omega))
  have B2 := B1.trans (hb2.mono (by omega))
  have B3 := (B2.alloc B2.size _).trans (hb3.mono (by simp; omega))
  exact (((((((B3.setCell (by simp) _).setCell (by simp) _).setCell (by simp) _).setCell (by simp) _).setCell (by simp) _).setCell (by simp) _).setCell (by simp) _).setCell (by simp) _

set_option maxHeartbeats 400000 in
theorem at_2 (a i p t m q s u n : Int) (w : World) :
    Calls Yba.prog 10 #[.agg #[.int .i64 a, .int .i64 i, .int .i64 p, .int .i64 t, .int .i64 m, .int .i64 q, .int .i64 s, .int .i64 u], .int .i64 2, .int .i64 n] w fun e w' => e = .returned (.agg #[.int .i64 a, .int .i64 i, .int .i64 p, .int .i64 n, .int .i64 0, .int .i64 0, .int .i64 0, .int .i64 0]) ∧ Below w.heap.size w w' := by
  go_enter Yba.func10, Yba.ntmps10
  go_wp2_with (first | (go_at_call 12; refine (upTo_2 _ _ _ _ _ _ _ _ _).mono ?_; rintro e w1 ⟨rfl, hb⟩; obtain ⟨hc, hf⟩ := bcell hb; have hz : w.heap.size < w1.heap.size := (by have := hb.size; simp at this; omega); have hz' : w.heap.size + 1 < w1.heap.size := (by have := hb.size; simp at this; omega)) | (go_at_call 11; refine (nums_any _ _ _ _ _ _ _ _ _).mono ?_; rintro e w2 ⟨rfl, hb2⟩; obtain ⟨hc2, hf2⟩ := bcell hb2; have hz2 : w.heap.size < w2.heap.size := (by have := hb2.size; omega); have hz2' : w.heap.size + 1 < w2.heap.size := (by have := hb2.size; omega)) | (go_at_call 13; refine (level_any _ _ _ _ _ _).mono ?_; rintro e w3 ⟨rfl, hb3⟩; obtain ⟨hc3, hf3⟩ := bcell hb3; have hz3 : w2.heap.size < w3.heap.size := (by have := hb3.size; simp at this; omega)))
  refine bodyPost_ret (v := .agg #[.int .i64 a, .int .i64 i, .int .i64 p, .int .i64 n, .int .i64 0, .int .i64 0, .int .i64 0, .int .i64 0]) (by simp [results, Yba.results10, go_sem, hc, hc2, hc3, hz', hz2, hz2']) rfl ⟨rfl, ?_⟩
  have B1 := (((Below.refl w.heap.size w).alloc (Nat.le_refl _) _).alloc (by simp) _).trans (hb.mono (by simp; omega))
  have B2 := B1.trans (hb2.mono (by omega))
  have B3 := (B2.alloc B2.size _).trans (hb3.mono (by simp; omega))
  exact (((((((B3.setCell (by simp) _).setCell (by simp) _).setCell (by simp) _).setCell (by simp) _).setCell (by simp) _).setCell (by simp) _).setCell (by simp) _).setCell (by simp) _

set_option maxHeartbeats 400000 in
theorem at_3 (a i p t m q s u n : Int) (w : World) :
    Calls Yba.prog 10 #[.agg #[.int .i64 a, .int .i64 i, .int .i64 p, .int .i64 t, .int .i64 m, .int .i64 q, .int .i64 s, .int .i64 u], .int .i64 3, .int .i64 n] w fun e w' => e = .returned (.agg #[.int .i64 a, .int .i64 i, .int .i64 p, .int .i64 t, .int .i64 0, .int .i64 0, .int .i64 0, .int .i64 n]) ∧ Below w.heap.size w w' := by
  go_enter Yba.func10, Yba.ntmps10
  go_wp2_with (first | (go_at_call 12; refine (upTo_3 _ _ _ _ _ _ _ _ _).mono ?_; rintro e w1 ⟨rfl, hb⟩; obtain ⟨hc, hf⟩ := bcell hb; have hz : w.heap.size < w1.heap.size := (by have := hb.size; simp at this; omega); have hz' : w.heap.size + 1 < w1.heap.size := (by have := hb.size; simp at this; omega)) | (go_at_call 11; refine (nums_any _ _ _ _ _ _ _ _ _).mono ?_; rintro e w2 ⟨rfl, hb2⟩; obtain ⟨hc2, hf2⟩ := bcell hb2; have hz2 : w.heap.size < w2.heap.size := (by have := hb2.size; omega); have hz2' : w.heap.size + 1 < w2.heap.size := (by have := hb2.size; omega)) | (go_at_call 13; refine (level_any _ _ _ _ _ _).mono ?_; rintro e w3 ⟨rfl, hb3⟩; obtain ⟨hc3, hf3⟩ := bcell hb3; have hz3 : w2.heap.size < w3.heap.size := (by have := hb3.size; simp at this; omega)))
  refine bodyPost_ret (v := .agg #[.int .i64 a, .int .i64 i, .int .i64 p, .int .i64 t, .int .i64 0, .int .i64 0, .int .i64 0, .int .i64 n]) (by simp [results, Yba.results10, go_sem, hc, hc2, hc3, hz', hz2, hz2']) rfl ⟨rfl, ?_⟩
  have B1 := (((Below.refl w.heap.size w).alloc (Nat.le_refl _) _).alloc (by simp) _).trans (hb.mono (by simp; omega))
  have B2 := B1.trans (hb2.mono (by omega))
  have B3 := (B2.alloc B2.size _).trans (hb3.mono (by simp; omega))
  exact (((((((B3.setCell (by simp) _).setCell (by simp) _).setCell (by simp) _).setCell (by simp) _).setCell (by simp) _).setCell (by simp) _).setCell (by simp) _).setCell (by simp) _
end Go.Proofs.Ybulkdpti

import Derived.Test.YbulkdptiAddr
import Derived.RegionTactic
import Derived.ChangeAlike
import Derived.BigRegion
namespace Go.Proofs.Ybulkdpti
open Go.RowKit

theorem bcellD {W w1 : World} (hb : Below W.drew.heap.size W.drew w1) : (∀ b o, b < W.heap.size → w1.cell? ⟨b, o, none⟩ = W.cell? ⟨b, o, none⟩) ∧ (∀ b o, b < W.heap.size → w1.frozen? ⟨b, o, none⟩ = W.frozen? ⟨b, o, none⟩) ∧ W.heap.size ≤ w1.heap.size :=
  ⟨fun b o h => by rw [hb.cell (p := ⟨b, o, none⟩) (by simpa using h)]; simp, fun b o h => by rw [hb.frozen (p := ⟨b, o, none⟩) (by simpa using h)]; simp, by have := hb.size; simpa using this⟩

/-- What a unit's first three cells hold. -/
def UnitAt (w : World) (b : Nat) (kd num ins : Int) : Prop :=
  b < w.heap.size ∧ w.cell? ⟨b, 0, none⟩ = some (.int .i64 kd) ∧ w.cell? ⟨b, 1, none⟩ = some (.int .i64 num) ∧ w.cell? ⟨b, 2, none⟩ = some (.int .i64 ins)

set_option maxHeartbeats 400000 in
theorem child_att (a i p t m q s u : Int) (b : Nat) (w : World) (hm : m ≠ 0) :
    Calls Yba.prog 6 #[.agg #[.int .i64 a, .int .i64 i, .int .i64 p, .int .i64 t, .int .i64 m, .int .i64 q, .int .i64 s, .int .i64 u], .pointer (some ⟨b, 0, none⟩)] w fun e w' =>
      e = .returned (.tuple #[.agg #[.int .i64 0, .int .i64 0, .int .i64 0, .int .i64 0, .int .i64 0, .int .i64 0, .int .i64 0, .int .i64 0], .bool false]) ∧ Below w.heap.size w w' := by
  have hm' : (m != 0) = true := by simpa using hm
  go_enter Yba.func6, Yba.ntmps6
  go_wp2
  exact bodyPost_ret (v := .tuple #[.agg #[.int .i64 0, .int .i64 0, .int .i64 0, .int .i64 0, .int .i64 0, .int .i64 0, .int .i64 0, .int .i64 0], .bool false]) (by simp [results, Yba.results6, go_sem]) rfl ⟨rfl, ((Below.refl _ _).alloc (Nat.le_refl _) _).alloc (by simp) _⟩

/-- The last test of a part's unit. -/
def nmd (s kd num ins : Int) : Bool := decide (s = 0) && decide (kd = 8) && decide (num ≠ 0) && decide (ins = 0)

set_option maxHeartbeats 1000000 in
theorem child_part (a i p t q s u kd num ins : Int) (b : Nat) (w : World) (hu : UnitAt w b kd num ins) (hq : q ≠ 0 ∨ s ≠ 0) :
    Calls Yba.prog 6 #[.agg #[.int .i64 a, .int .i64 i, .int .i64 p, .int .i64 t, .int .i64 0, .int .i64 q, .int .i64 s, .int .i64 u], .pointer (some ⟨b, 0, none⟩)] w fun e w' =>
      e = .returned (.tuple #[.agg #[.int .i64 0, .int .i64 0, .int .i64 0, .int .i64 0, .int .i64 0, .int .i64 q, .int .i64 num, .int .i64 0], .bool (nmd s kd num ins)]) ∧ Below w.heap.size w w' := by
  obtain ⟨hb, c0, c1, c2⟩ := hu
  by_cases hs : s = 0
  · subst hs
    have hq' : (q != 0) = true := by simpa using hq
    by_cases hk : kd = 8
    · subst hk
      by_cases hn : num = 0
      · subst hn
        rw [show nmd 0 8 0 ins = false from by simp [nmd]]
        go_enter Yba.func6, Yba.ntmps6
        go_wp2
        go_region
        all_goals (go_wp2; exact bodyPost_ret (v := .tuple #[.agg #[.int .i64 0, .int .i64 0, .int .i64 0, .int .i64 0, .int .i64 0, .int .i64 q, .int .i64 0, .int .i64 0], .bool false]) (by simp [results, Yba.results6, go_sem]) rfl ⟨rfl, (((Below.refl _ _).alloc (Nat.le_refl _) _).alloc (by simp) _).drew⟩)
      · have hn' : (num != 0) = true := by simpa using hn
        by_cases hi : ins = 0
        · subst hi
          rw [show nmd 0 8 num 0 = true from by simp [nmd, hn]]
          go_enter Yba.func6, Yba.ntmps6
          go_wp2
          go_region
          all_goals (go_wp2; exact bodyPost_ret (v := .tuple #[.agg #[.int .i64 0, .int .i64 0, .int .i64 0, .int .i64 0, .int .i64 0, .int .i64 q, .int .i64 num, .int .i64 0], .bool true]) (by simp [results, Yba.results6, go_sem]) rfl ⟨rfl, (((Below.refl _ _).alloc (Nat.le_refl _) _).alloc (by simp) _).drew⟩)
        · have hi' : (ins == 0) = false := by simpa using hi
          rw [show nmd 0 8 num ins = false from by simp [nmd, hi]]
          go_enter Yba.func6, Yba.ntmps6
          go_wp2
          go_region
          all_goals (go_wp2; exact bodyPost_ret (v := .tuple #[.agg #[.int .i64 0, .int .i64 0, .int .i64 0, .int .i64 0, .int .i64 0, .int .i64 q, .int .i64 num, .int .i64 0], .bool false]) (by simp [results, Yba.results6, go_sem]) rfl ⟨rfl, (((Below.refl _ _).alloc (Nat.le_refl _) _).alloc (by simp) _).drew⟩)
    · have hk' : (kd == 8) = false := by simpa using hk
      rw [show nmd 0 kd num ins = false from by simp [nmd, hk]]
      go_enter Yba.func6, Yba.ntmps6
      go_wp2
      go_region
      all_goals (go_wp2; exact bodyPost_ret (v := .tuple #[.agg #[.int .i64 0, .int .i64 0, .int .i64 0, .int .i64 0, .int .i64 0, .int .i64 q, .int .i64 num, .int .i64 0], .bool false]) (by simp [results, Yba.results6, go_sem]) rfl ⟨rfl, (((Below.refl _ _).alloc (Nat.le_refl _) _).alloc (by simp) _).drew⟩)
  · have hs' : (s == 0) = false := by simpa using hs
    have hs'' : (s != 0) = true := by simpa using hs
    rw [show nmd s kd num ins = false from by simp [nmd, hs]]
    by_cases hq0 : q = 0
    · subst hq0
      go_enter Yba.func6, Yba.ntmps6
      go_wp2
      go_region
      all_goals (go_wp2; exact bodyPost_ret (v := .tuple #[.agg #[.int .i64 0, .int .i64 0, .int .i64 0, .int .i64 0, .int .i64 0, .int .i64 0, .int .i64 num, .int .i64 0], .bool false]) (by simp [results, Yba.results6, go_sem]) rfl ⟨rfl, (((Below.refl _ _).alloc (Nat.le_refl _) _).alloc (by simp) _).drew⟩)
    · have hq' : (q != 0) = true := by simpa using hq0
      go_enter Yba.func6, Yba.ntmps6
      go_wp2
      go_region
      all_goals (go_wp2; exact bodyPost_ret (v := .tuple #[.agg #[.int .i64 0, .int .i64 0, .int .i64 0, .int .i64 0, .int .i64 0, .int .i64 q, .int .i64 num, .int .i64 0], .bool false]) (by simp [results, Yba.results6, go_sem]) rfl ⟨rfl, (((Below.refl _ _).alloc (Nat.le_refl _) _).alloc (by simp) _).drew⟩)

set_option maxHeartbeats 1000000 in
theorem child_deep (a i p t u kd num ins : Int) (b : Nat) (w : World) (hu : UnitAt w b kd num ins) (h : dep p t u = 3) :
    Calls Yba.prog 6 #[.agg #[.int .i64 a, .int .i64 i, .int .i64 p, .int .i64 t, .int .i64 0, .int .i64 0, .int .i64 0, .int .i64 u], .pointer (some ⟨b, 0, none⟩)] w fun e w' =>
      e = .returned (.tuple #[.agg #[.int .i64 0, .int .i64 0, .int .i64 0, .int .i64 0, .int .i64 0, .int .i64 0, .int .i64 0, .int .i64 0], .bool false]) ∧ Below w.heap.size w w' := by
  obtain ⟨hb, c0, c1, c2⟩ := hu
  have HD : Hid (dep p t u = 3) := h
  clear h
  go_enter Yba.func6, Yba.ntmps6
  go_wp2_with (go_at_call 9; refine (depth_any _ _ _ _ _ _ _ _ _).mono ?_; rintro e w1 ⟨rfl, hb1⟩; rw [HD.out]; obtain ⟨hc, hf⟩ := bcell hb1; have hz : w.heap.size < w1.heap.size := (by have := hb1.size; simp at this; omega); have hz' : w.heap.size + 1 < w1.heap.size := (by have := hb1.size; simp at this; omega); have hzb : b < w1.heap.size := (by omega); have d1 : w1.cell? ⟨b, 1, none⟩ = some (.int .i64 num) := (by rw [hc _ _ (by simp; omega)]; simpa [World.cell?_alloc_past, hb, Nat.lt_succ_of_lt hb] using c1))
  refine bodyPost_ret (v := .tuple #[.agg #[.int .i64 0, .int .i64 0, .int .i64 0, .int .i64 0, .int .i64 0, .int .i64 0, .int .i64 0, .int .i64 0], .bool false]) (by simp [results, Yba.results6, go_sem, hc]) rfl ⟨rfl, ?_⟩
  have B1 := (((Below.refl w.heap.size w).alloc (Nat.le_refl _) _).alloc (by simp) _).trans (hb1.mono (by simp; omega))
  exact (((((((B1.setCell (by simp) _).setCell (by simp) _).setCell (by simp) _).setCell (by simp) _).setCell (by simp) _).setCell (by simp) _).setCell (by simp) _).setCell (by simp) _

set_option maxHeartbeats 1000000 in
theorem child_zero (a i p t u kd ins d : Int) (b : Nat) (w : World) (hu : UnitAt w b kd 0 ins) (h : dep p t u = d) (hd : 0 ≤ d ∧ d ≤ 2) :
    Calls Yba.prog 6 #[.agg #[.int .i64 a, .int .i64 i, .int .i64 p, .int .i64 t, .int .i64 0, .int .i64 0, .int .i64 0, .int .i64 u], .pointer (some ⟨b, 0, none⟩)] w fun e w' =>
      e = .returned (.tuple #[.agg #[.int .i64 0, .int .i64 0, .int .i64 0, .int .i64 0, .int .i64 0, .int .i64 0, .int .i64 0, .int .i64 0], .bool false]) ∧ Below w.heap.size w w' := by
  obtain ⟨hb, c0, c1, c2⟩ := hu
  have HD : Hid (dep p t u = d) := h
  clear h
  obtain ⟨hd0, hd2⟩ := hd
  have hd4 : (d + 1 == 4) = false := by simp; omega
  go_enter Yba.func6, Yba.ntmps6
  go_wp2_with (go_at_call 9; refine (depth_any _ _ _ _ _ _ _ _ _).mono ?_; rintro e w1 ⟨rfl, hb1⟩; rw [HD.out]; obtain ⟨hc, hf⟩ := bcell hb1; have hz : w.heap.size < w1.heap.size := (by have := hb1.size; simp at this; omega); have hz' : w.heap.size + 1 < w1.heap.size := (by have := hb1.size; simp at this; omega); have hzb : b < w1.heap.size := (by omega); have d1 : w1.cell? ⟨b, 1, none⟩ = some (.int .i64 0) := (by rw [hc _ _ (by simp; omega)]; simpa [World.cell?_alloc_past, hb, Nat.lt_succ_of_lt hb] using c1))
  refine bodyPost_ret (v := .tuple #[.agg #[.int .i64 0, .int .i64 0, .int .i64 0, .int .i64 0, .int .i64 0, .int .i64 0, .int .i64 0, .int .i64 0], .bool false]) (by simp [results, Yba.results6, go_sem, hc]) rfl ⟨rfl, ?_⟩
  have B1 := (((Below.refl w.heap.size w).alloc (Nat.le_refl _) _).alloc (by simp) _).trans (hb1.mono (by simp; omega))
  exact (((((((B1.setCell (by simp) _).setCell (by simp) _).setCell (by simp) _).setCell (by simp) _).setCell (by simp) _).setCell (by simp) _).setCell (by simp) _).setCell (by simp) _

set_option maxHeartbeats 1000000 in
theorem child_1 (a i p t u kd num ins : Int) (b : Nat) (w : World) (hu : UnitAt w b kd num ins) (h : dep p t u = 0) (hn : num ≠ 0) :
    Calls Yba.prog 6 #[.agg #[.int .i64 a, .int .i64 i, .int .i64 p, .int .i64 t, .int .i64 0, .int .i64 0, .int .i64 0, .int .i64 u], .pointer (some ⟨b, 0, none⟩)] w fun e w' =>
      e = .returned (.tuple #[.agg #[.int .i64 a, .int .i64 i, .int .i64 num, .int .i64 0, .int .i64 0, .int .i64 0, .int .i64 0, .int .i64 0], .bool true]) ∧ Below w.heap.size w w' := by
  obtain ⟨hb, c0, c1, c2⟩ := hu
  have HD : Hid (dep p t u = 0) := h
  clear h
  have hn' : (num == 0) = false := by simpa using hn
  go_enter Yba.func6, Yba.ntmps6
  go_wp2_with (go_at_call 9; refine (depth_any _ _ _ _ _ _ _ _ _).mono ?_; rintro e w1 ⟨rfl, hb1⟩; rw [HD.out]; obtain ⟨hc, hf⟩ := bcell hb1; have hz : w.heap.size < w1.heap.size := (by have := hb1.size; simp at this; omega); have hz' : w.heap.size + 1 < w1.heap.size := (by have := hb1.size; simp at this; omega); have hzb : b < w1.heap.size := (by omega); have d1 : w1.cell? ⟨b, 1, none⟩ = some (.int .i64 num) := (by rw [hc _ _ (by simp; omega)]; simpa [World.cell?_alloc_past, hb, Nat.lt_succ_of_lt hb] using c1))
  go_region_with (go_at_call 10; refine (at_1 _ _ _ _ _ _ _ _ _ _).mono ?_; rintro e w2 ⟨rfl, hb2⟩; obtain ⟨hc2, hf2, hz0⟩ := bcellD hb2; have hz2 : w.heap.size + 1 < w2.heap.size := (by omega); have hz2b : b < w2.heap.size := (by omega))
  all_goals
    go_wp2
    refine bodyPost_ret (v := .tuple #[.agg #[.int .i64 a, .int .i64 i, .int .i64 num, .int .i64 0, .int .i64 0, .int .i64 0, .int .i64 0, .int .i64 0], .bool true]) (by simp [results, Yba.results6, go_sem, hc, hc2, hz']) rfl ⟨rfl, ?_⟩
    have B1 := (((Below.refl w.heap.size w).alloc (Nat.le_refl _) _).alloc (by simp) _).trans (hb1.mono (by simp; omega))
    have B2 := B1.drew.trans (hb2.mono (by simp; omega))
    exact (((((((B2.setCell (by simp) _).setCell (by simp) _).setCell (by simp) _).setCell (by simp) _).setCell (by simp) _).setCell (by simp) _).setCell (by simp) _).setCell (by simp) _

set_option maxHeartbeats 1000000 in
theorem child_2 (a i p t u kd num ins : Int) (b : Nat) (w : World) (hu : UnitAt w b kd num ins) (h : dep p t u = 1) (hn : num ≠ 0) :
    Calls Yba.prog 6 #[.agg #[.int .i64 a, .int .i64 i, .int .i64 p, .int .i64 t, .int .i64 0, .int .i64 0, .int .i64 0, .int .i64 u], .pointer (some ⟨b, 0, none⟩)] w fun e w' =>
      e = .returned (.tuple #[.agg #[.int .i64 a, .int .i64 i, .int .i64 p, .int .i64 num, .int .i64 0, .int .i64 0, .int .i64 0, .int .i64 0], .bool true]) ∧ Below w.heap.size w w' := by
  obtain ⟨hb, c0, c1, c2⟩ := hu
  have HD : Hid (dep p t u = 1) := h
  clear h
  have hn' : (num == 0) = false := by simpa using hn
  go_enter Yba.func6, Yba.ntmps6
  go_wp2_with (go_at_call 9; refine (depth_any _ _ _ _ _ _ _ _ _).mono ?_; rintro e w1 ⟨rfl, hb1⟩; rw [HD.out]; obtain ⟨hc, hf⟩ := bcell hb1; have hz : w.heap.size < w1.heap.size := (by have := hb1.size; simp at this; omega); have hz' : w.heap.size + 1 < w1.heap.size := (by have := hb1.size; simp at this; omega); have hzb : b < w1.heap.size := (by omega); have d1 : w1.cell? ⟨b, 1, none⟩ = some (.int .i64 num) := (by rw [hc _ _ (by simp; omega)]; simpa [World.cell?_alloc_past, hb, Nat.lt_succ_of_lt hb] using c1))
  go_region_with (go_at_call 10; refine (at_2 _ _ _ _ _ _ _ _ _ _).mono ?_; rintro e w2 ⟨rfl, hb2⟩; obtain ⟨hc2, hf2, hz0⟩ := bcellD hb2; have hz2 : w.heap.size + 1 < w2.heap.size := (by omega); have hz2b : b < w2.heap.size := (by omega))
  all_goals
    go_wp2
    refine bodyPost_ret (v := .tuple #[.agg #[.int .i64 a, .int .i64 i, .int .i64 p, .int .i64 num, .int .i64 0, .int .i64 0, .int .i64 0, .int .i64 0], .bool true]) (by simp [results, Yba.results6, go_sem, hc, hc2, hz']) rfl ⟨rfl, ?_⟩
    have B1 := (((Below.refl w.heap.size w).alloc (Nat.le_refl _) _).alloc (by simp) _).trans (hb1.mono (by simp; omega))
    have B2 := B1.drew.trans (hb2.mono (by simp; omega))
    exact (((((((B2.setCell (by simp) _).setCell (by simp) _).setCell (by simp) _).setCell (by simp) _).setCell (by simp) _).setCell (by simp) _).setCell (by simp) _).setCell (by simp) _

set_option maxHeartbeats 1000000 in
theorem child_3 (a i p t u kd num ins : Int) (b : Nat) (w : World) (hu : UnitAt w b kd num ins) (h : dep p t u = 2) (hn : num ≠ 0) :
    Calls Yba.prog 6 #[.agg #[.int .i64 a, .int .i64 i, .int .i64 p, .int .i64 t, .int .i64 0, .int .i64 0, .int .i64 0, .int .i64 u], .pointer (some ⟨b, 0, none⟩)] w fun e w' =>
      e = .returned (.tuple #[.agg #[.int .i64 a, .int .i64 i, .int .i64 p, .int .i64 t, .int .i64 0, .int .i64 0, .int .i64 0, .int .i64 num], .bool true]) ∧ Below w.heap.size w w' := by
  obtain ⟨hb, c0, c1, c2⟩ := hu
  have HD : Hid (dep p t u = 2) := h
  clear h
  have hn' : (num == 0) = false := by simpa using hn
  go_enter Yba.func6, Yba.ntmps6
  go_wp2_with (go_at_call 9; refine (depth_any _ _ _ _ _ _ _ _ _).mono ?_; rintro e w1 ⟨rfl, hb1⟩; rw [HD.out]; obtain ⟨hc, hf⟩ := bcell hb1; have hz : w.heap.size < w1.heap.size := (by have := hb1.size; simp at this; omega); have hz' : w.heap.size + 1 < w1.heap.size := (by have := hb1.size; simp at this; omega); have hzb : b < w1.heap.size := (by omega); have d1 : w1.cell? ⟨b, 1, none⟩ = some (.int .i64 num) := (by rw [hc _ _ (by simp; omega)]; simpa [World.cell?_alloc_past, hb, Nat.lt_succ_of_lt hb] using c1))
  go_region_with (go_at_call 10; refine (at_3 _ _ _ _ _ _ _ _ _ _).mono ?_; rintro e w2 ⟨rfl, hb2⟩; obtain ⟨hc2, hf2, hz0⟩ := bcellD hb2; have hz2 : w.heap.size + 1 < w2.heap.size := (by omega); have hz2b : b < w2.heap.size := (by omega))
  all_goals
    go_wp2
    refine bodyPost_ret (v := .tuple #[.agg #[.int .i64 a, .int .i64 i, .int .i64 p, .int .i64 t, .int .i64 0, .int .i64 0, .int .i64 0, .int .i64 num], .bool true]) (by simp [results, Yba.results6, go_sem, hc, hc2, hz']) rfl ⟨rfl, ?_⟩
    have B1 := (((Below.refl w.heap.size w).alloc (Nat.le_refl _) _).alloc (by simp) _).trans (hb1.mono (by simp; omega))
    have B2 := B1.drew.trans (hb2.mono (by simp; omega))
    exact (((((((B2.setCell (by simp) _).setCell (by simp) _).setCell (by simp) _).setCell (by simp) _).setCell (by simp) _).setCell (by simp) _).setCell (by simp) _).setCell (by simp) _
end Go.Proofs.Ybulkdpti

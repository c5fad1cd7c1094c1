import Derived.Test.YbulkdptiChild
namespace Go.Proofs.Ybulkdpti
open Go.RowKit

theorem nil26 (w : World) : (binOp .eql 26 (.slice none 0 0) (.slice none 0 0)).run Yba.prog w = .ok (.bool true) w := by kernel_rfl
theorem eq23 (a i p t m q s u : Int) (w : World) : (binOp .eql 23 (.agg #[.int .i64 a, .int .i64 i, .int .i64 p, .int .i64 t, .int .i64 m, .int .i64 q, .int .i64 s, .int .i64 u]) (.agg #[.int .i64 a, .int .i64 i, .int .i64 p, .int .i64 t, .int .i64 m, .int .i64 q, .int .i64 s, .int .i64 u])).run Yba.prog w = .ok (.bool true) w := by
  simp [go_sem, binOp, Op.equal, Op.maxDepth, Yba.underlying23, Yba.underlying3]

set_option maxRecDepth 100000 in
set_option maxHeartbeats 2000000 in
theorem lawA_att (a i p t m q s u kd num ins : Int) (w : World) (hk : 0 ≤ kd ∧ kd ≤ 255) (hm : m ≠ 0) :
    Calls Yba.prog 3 #[.agg #[.int .i64 a, .int .i64 i, .int .i64 p, .int .i64 t, .int .i64 m, .int .i64 q, .int .i64 s, .int .i64 u], .int .u8 kd, .int .i64 num, .int .i64 ins] w fun e w' => e = .returned (.bool true) ∧ Below w.heap.size w w' := by
  obtain ⟨hk0, hk1⟩ := hk
  have hmn : (m != 0) = true := by simpa using hm
  have hme : (m == 0) = false := by simpa using hm
  have hnil := nil26
  have heq := eq23
  go_enter Yba.func3, Yba.ntmps3
  go_wp2_with (go_at_call 6; refine (child_att _ _ _ _ _ _ _ _ _ _ hm).mono ?_; rintro e w1 ⟨rfl, hb1⟩; obtain ⟨hc, hf⟩ := bcell hb1; have hz : w.heap.size < w1.heap.size := (by have := hb1.size; simp at this; omega); have hz' : w.heap.size + 1 < w1.heap.size := (by have := hb1.size; simp at this; omega))
  go_ret
  have B1 := (((Below.refl w.heap.size w).alloc (Nat.le_refl _) _).alloc (by simp) _).trans (hb1.mono (by simp; omega))
  exact ⟨rfl, (B1.alloc B1.size _).alloc (by have := B1.size; simp; omega) _⟩

set_option maxRecDepth 100000 in
set_option maxHeartbeats 2000000 in
theorem lawA_p1 (a i p t q u kd num ins : Int) (w : World) (hk : 0 ≤ kd ∧ kd ≤ 255) (hq : q ≠ 0) (h8 : (kd % 10 == 8) = false) :
    Calls Yba.prog 3 #[.agg #[.int .i64 a, .int .i64 i, .int .i64 p, .int .i64 t, .int .i64 0, .int .i64 q, .int .i64 0, .int .i64 u], .int .u8 kd, .int .i64 num, .int .i64 ins] w fun e w' => e = .returned (.bool true) ∧ Below w.heap.size w w' := by
  obtain ⟨hk0, hk1⟩ := hk
  have hqn : (q != 0) = true := by simpa using hq
  have hqe : (q == 0) = false := by simpa using hq
  have HN : Hid (nmd 0 (kd % 10) num ins = false) := by simp_all [nmd, Hid]
  have hnil := nil26
  have heq := eq23
  go_enter Yba.func3, Yba.ntmps3
  go_wp2_with (go_at_call 6; refine (child_part _ _ _ _ _ _ _ (kd % 10) num ins _ _ ⟨by simp, by simp [go_sem], by simp [go_sem], by simp [go_sem]⟩ (by simp_all)).mono ?_; rintro e w1 ⟨rfl, hb1⟩; rw [HN.out]; obtain ⟨hc, hf⟩ := bcell hb1; have hz : w.heap.size < w1.heap.size := (by have := hb1.size; simp at this; omega); have hz' : w.heap.size + 1 < w1.heap.size := (by have := hb1.size; simp at this; omega))
  go_ret
  have B1 := (((Below.refl w.heap.size w).alloc (Nat.le_refl _) _).alloc (by simp) _).trans (hb1.mono (by simp; omega))
  exact ⟨rfl, (B1.alloc B1.size _).alloc (by have := B1.size; simp; omega) _⟩

set_option maxRecDepth 100000 in
set_option maxHeartbeats 2000000 in
theorem lawA_p2 (a i p t q u kd ins : Int) (w : World) (hk : 0 ≤ kd ∧ kd ≤ 255) (hq : q ≠ 0) (h8 : (kd % 10 == 8) = true) :
    Calls Yba.prog 3 #[.agg #[.int .i64 a, .int .i64 i, .int .i64 p, .int .i64 t, .int .i64 0, .int .i64 q, .int .i64 0, .int .i64 u], .int .u8 kd, .int .i64 0, .int .i64 ins] w fun e w' => e = .returned (.bool true) ∧ Below w.heap.size w w' := by
  obtain ⟨hk0, hk1⟩ := hk
  have hqn : (q != 0) = true := by simpa using hq
  have hqe : (q == 0) = false := by simpa using hq
  have HN : Hid (nmd 0 (kd % 10) 0 ins = false) := by simp_all [nmd, Hid]
  have hnil := nil26
  have heq := eq23
  go_enter Yba.func3, Yba.ntmps3
  go_wp2_with (go_at_call 6; refine (child_part _ _ _ _ _ _ _ (kd % 10) 0 ins _ _ ⟨by simp, by simp [go_sem], by simp [go_sem], by simp [go_sem]⟩ (by simp_all)).mono ?_; rintro e w1 ⟨rfl, hb1⟩; rw [HN.out]; obtain ⟨hc, hf⟩ := bcell hb1; have hz : w.heap.size < w1.heap.size := (by have := hb1.size; simp at this; omega); have hz' : w.heap.size + 1 < w1.heap.size := (by have := hb1.size; simp at this; omega))
  go_ret
  have B1 := (((Below.refl w.heap.size w).alloc (Nat.le_refl _) _).alloc (by simp) _).trans (hb1.mono (by simp; omega))
  exact ⟨rfl, (B1.alloc B1.size _).alloc (by have := B1.size; simp; omega) _⟩

set_option maxRecDepth 100000 in
set_option maxHeartbeats 2000000 in
theorem lawA_p3 (a i p t q u kd num : Int) (w : World) (hk : 0 ≤ kd ∧ kd ≤ 255) (hq : q ≠ 0) (h8 : (kd % 10 == 8) = true) (hn : num ≠ 0) :
    Calls Yba.prog 3 #[.agg #[.int .i64 a, .int .i64 i, .int .i64 p, .int .i64 t, .int .i64 0, .int .i64 q, .int .i64 0, .int .i64 u], .int .u8 kd, .int .i64 num, .int .i64 0] w fun e w' => e = .returned (.bool true) ∧ Below w.heap.size w w' := by
  obtain ⟨hk0, hk1⟩ := hk
  have hqn : (q != 0) = true := by simpa using hq
  have hqe : (q == 0) = false := by simpa using hq
  have hnn : (num != 0) = true := by simpa using hn
  have hne : (num == 0) = false := by simpa using hn
  have HN : Hid (nmd 0 (kd % 10) num 0 = true) := by simp_all [nmd, Hid]
  have hnil := nil26
  have heq := eq23
  go_enter Yba.func3, Yba.ntmps3
  go_wp2_with (go_at_call 6; refine (child_part _ _ _ _ _ _ _ (kd % 10) num 0 _ _ ⟨by simp, by simp [go_sem], by simp [go_sem], by simp [go_sem]⟩ (by simp_all)).mono ?_; rintro e w1 ⟨rfl, hb1⟩; rw [HN.out]; obtain ⟨hc, hf⟩ := bcell hb1; have hz : w.heap.size < w1.heap.size := (by have := hb1.size; simp at this; omega); have hz' : w.heap.size + 1 < w1.heap.size := (by have := hb1.size; simp at this; omega))
  go_ret
  have B1 := (((Below.refl w.heap.size w).alloc (Nat.le_refl _) _).alloc (by simp) _).trans (hb1.mono (by simp; omega))
  exact ⟨rfl, (B1.alloc B1.size _).alloc (by have := B1.size; simp; omega) _⟩

set_option maxRecDepth 100000 in
set_option maxHeartbeats 2000000 in
theorem lawA_p4 (a i p t q u kd num ins : Int) (w : World) (hk : 0 ≤ kd ∧ kd ≤ 255) (hq : q ≠ 0) (h8 : (kd % 10 == 8) = true) (hn : num ≠ 0) (hi : ins ≠ 0) :
    Calls Yba.prog 3 #[.agg #[.int .i64 a, .int .i64 i, .int .i64 p, .int .i64 t, .int .i64 0, .int .i64 q, .int .i64 0, .int .i64 u], .int .u8 kd, .int .i64 num, .int .i64 ins] w fun e w' => e = .returned (.bool true) ∧ Below w.heap.size w w' := by
  obtain ⟨hk0, hk1⟩ := hk
  have hqn : (q != 0) = true := by simpa using hq
  have hqe : (q == 0) = false := by simpa using hq
  have hnn : (num != 0) = true := by simpa using hn
  have hne : (num == 0) = false := by simpa using hn
  have hin : (ins != 0) = true := by simpa using hi
  have hie : (ins == 0) = false := by simpa using hi
  have HN : Hid (nmd 0 (kd % 10) num ins = false) := by simp_all [nmd, Hid]
  have hnil := nil26
  have heq := eq23
  go_enter Yba.func3, Yba.ntmps3
  go_wp2_with (go_at_call 6; refine (child_part _ _ _ _ _ _ _ (kd % 10) num ins _ _ ⟨by simp, by simp [go_sem], by simp [go_sem], by simp [go_sem]⟩ (by simp_all)).mono ?_; rintro e w1 ⟨rfl, hb1⟩; rw [HN.out]; obtain ⟨hc, hf⟩ := bcell hb1; have hz : w.heap.size < w1.heap.size := (by have := hb1.size; simp at this; omega); have hz' : w.heap.size + 1 < w1.heap.size := (by have := hb1.size; simp at this; omega))
  go_ret
  have B1 := (((Below.refl w.heap.size w).alloc (Nat.le_refl _) _).alloc (by simp) _).trans (hb1.mono (by simp; omega))
  exact ⟨rfl, (B1.alloc B1.size _).alloc (by have := B1.size; simp; omega) _⟩

set_option maxRecDepth 100000 in
set_option maxHeartbeats 2000000 in
theorem lawA_p5 (a i p t s u kd num ins : Int) (w : World) (hk : 0 ≤ kd ∧ kd ≤ 255) (hs : s ≠ 0) :
    Calls Yba.prog 3 #[.agg #[.int .i64 a, .int .i64 i, .int .i64 p, .int .i64 t, .int .i64 0, .int .i64 0, .int .i64 s, .int .i64 u], .int .u8 kd, .int .i64 num, .int .i64 ins] w fun e w' => e = .returned (.bool true) ∧ Below w.heap.size w w' := by
  obtain ⟨hk0, hk1⟩ := hk
  have hsn : (s != 0) = true := by simpa using hs
  have hse : (s == 0) = false := by simpa using hs
  have HN : Hid (nmd s (kd % 10) num ins = false) := by simp_all [nmd, Hid]
  have hnil := nil26
  have heq := eq23
  go_enter Yba.func3, Yba.ntmps3
  go_wp2_with (go_at_call 6; refine (child_part _ _ _ _ _ _ _ (kd % 10) num ins _ _ ⟨by simp, by simp [go_sem], by simp [go_sem], by simp [go_sem]⟩ (by simp_all)).mono ?_; rintro e w1 ⟨rfl, hb1⟩; rw [HN.out]; obtain ⟨hc, hf⟩ := bcell hb1; have hz : w.heap.size < w1.heap.size := (by have := hb1.size; simp at this; omega); have hz' : w.heap.size + 1 < w1.heap.size := (by have := hb1.size; simp at this; omega))
  go_ret
  have B1 := (((Below.refl w.heap.size w).alloc (Nat.le_refl _) _).alloc (by simp) _).trans (hb1.mono (by simp; omega))
  exact ⟨rfl, (B1.alloc B1.size _).alloc (by have := B1.size; simp; omega) _⟩

set_option maxRecDepth 100000 in
set_option maxHeartbeats 2000000 in
theorem lawA_p6 (a i p t q s u kd num ins : Int) (w : World) (hk : 0 ≤ kd ∧ kd ≤ 255) (hq : q ≠ 0) (hs : s ≠ 0) :
    Calls Yba.prog 3 #[.agg #[.int .i64 a, .int .i64 i, .int .i64 p, .int .i64 t, .int .i64 0, .int .i64 q, .int .i64 s, .int .i64 u], .int .u8 kd, .int .i64 num, .int .i64 ins] w fun e w' => e = .returned (.bool true) ∧ Below w.heap.size w w' := by
  obtain ⟨hk0, hk1⟩ := hk
  have hqn : (q != 0) = true := by simpa using hq
  have hqe : (q == 0) = false := by simpa using hq
  have hsn : (s != 0) = true := by simpa using hs
  have hse : (s == 0) = false := by simpa using hs
  have HN : Hid (nmd s (kd % 10) num ins = false) := by simp_all [nmd, Hid]
  have hnil := nil26
  have heq := eq23
  go_enter Yba.func3, Yba.ntmps3
  go_wp2_with (go_at_call 6; refine (child_part _ _ _ _ _ _ _ (kd % 10) num ins _ _ ⟨by simp, by simp [go_sem], by simp [go_sem], by simp [go_sem]⟩ (by simp_all)).mono ?_; rintro e w1 ⟨rfl, hb1⟩; rw [HN.out]; obtain ⟨hc, hf⟩ := bcell hb1; have hz : w.heap.size < w1.heap.size := (by have := hb1.size; simp at this; omega); have hz' : w.heap.size + 1 < w1.heap.size := (by have := hb1.size; simp at this; omega))
  go_ret
  have B1 := (((Below.refl w.heap.size w).alloc (Nat.le_refl _) _).alloc (by simp) _).trans (hb1.mono (by simp; omega))
  exact ⟨rfl, (B1.alloc B1.size _).alloc (by have := B1.size; simp; omega) _⟩

set_option maxRecDepth 100000 in
set_option maxHeartbeats 2000000 in
theorem lawA_deep (a i p t u kd num ins : Int) (w : World) (hk : 0 ≤ kd ∧ kd ≤ 255) (hp : p ≠ 0) (ht : t ≠ 0) (hu : u ≠ 0) :
    Calls Yba.prog 3 #[.agg #[.int .i64 a, .int .i64 i, .int .i64 p, .int .i64 t, .int .i64 0, .int .i64 0, .int .i64 0, .int .i64 u], .int .u8 kd, .int .i64 num, .int .i64 ins] w fun e w' => e = .returned (.bool true) ∧ Below w.heap.size w w' := by
  obtain ⟨hk0, hk1⟩ := hk
  have hpn : (p != 0) = true := by simpa using hp
  have hpe : (p == 0) = false := by simpa using hp
  have htn : (t != 0) = true := by simpa using ht
  have hte : (t == 0) = false := by simpa using ht
  have hun : (u != 0) = true := by simpa using hu
  have hue : (u == 0) = false := by simpa using hu
  have hd : dep p t u = 3 := by simp [dep, hp, ht, hu]
  have HD : Hid (dep p t u = 3) := hd
  clear hd
  have hnil := nil26
  have heq := eq23
  go_enter Yba.func3, Yba.ntmps3
  go_wp2_with (go_at_call 6; refine (child_deep _ _ _ _ _ (kd % 10) num ins _ _ ⟨by simp, by simp [go_sem], by simp [go_sem], by simp [go_sem]⟩ HD.out).mono ?_; rintro e w1 ⟨rfl, hb1⟩; obtain ⟨hc, hf⟩ := bcell hb1; have hz : w.heap.size < w1.heap.size := (by have := hb1.size; simp at this; omega); have hz' : w.heap.size + 1 < w1.heap.size := (by have := hb1.size; simp at this; omega))
  go_ret
  have B1 := (((Below.refl w.heap.size w).alloc (Nat.le_refl _) _).alloc (by simp) _).trans (hb1.mono (by simp; omega))
  exact ⟨rfl, (B1.alloc B1.size _).alloc (by have := B1.size; simp; omega) _⟩

set_option maxRecDepth 100000 in
set_option maxHeartbeats 2000000 in
theorem lawA_z0 (a i t u kd ins : Int) (w : World) (hk : 0 ≤ kd ∧ kd ≤ 255) :
    Calls Yba.prog 3 #[.agg #[.int .i64 a, .int .i64 i, .int .i64 0, .int .i64 t, .int .i64 0, .int .i64 0, .int .i64 0, .int .i64 u], .int .u8 kd, .int .i64 0, .int .i64 ins] w fun e w' => e = .returned (.bool true) ∧ Below w.heap.size w w' := by
  obtain ⟨hk0, hk1⟩ := hk
  have HD : Hid (dep 0 t u = 0) := by simp_all [dep, Hid]
  have hnil := nil26
  have heq := eq23
  go_enter Yba.func3, Yba.ntmps3
  go_wp2_with (go_at_call 6; refine (child_zero _ _ _ _ _ (kd % 10) ins 0 _ _ ⟨by simp, by simp [go_sem], by simp [go_sem], by simp [go_sem]⟩ HD.out (by decide)).mono ?_; rintro e w1 ⟨rfl, hb1⟩; obtain ⟨hc, hf⟩ := bcell hb1; have hz : w.heap.size < w1.heap.size := (by have := hb1.size; simp at this; omega); have hz' : w.heap.size + 1 < w1.heap.size := (by have := hb1.size; simp at this; omega))
  go_ret
  have B1 := (((Below.refl w.heap.size w).alloc (Nat.le_refl _) _).alloc (by simp) _).trans (hb1.mono (by simp; omega))
  exact ⟨rfl, (B1.alloc B1.size _).alloc (by have := B1.size; simp; omega) _⟩

set_option maxRecDepth 100000 in
set_option maxHeartbeats 2000000 in
theorem lawA_z1 (a i p u kd ins : Int) (w : World) (hk : 0 ≤ kd ∧ kd ≤ 255) (hp : p ≠ 0) :
    Calls Yba.prog 3 #[.agg #[.int .i64 a, .int .i64 i, .int .i64 p, .int .i64 0, .int .i64 0, .int .i64 0, .int .i64 0, .int .i64 u], .int .u8 kd, .int .i64 0, .int .i64 ins] w fun e w' => e = .returned (.bool true) ∧ Below w.heap.size w w' := by
  obtain ⟨hk0, hk1⟩ := hk
  have hpn : (p != 0) = true := by simpa using hp
  have hpe : (p == 0) = false := by simpa using hp
  have HD : Hid (dep p 0 u = 1) := by simp_all [dep, Hid]
  have hnil := nil26
  have heq := eq23
  go_enter Yba.func3, Yba.ntmps3
  go_wp2_with (go_at_call 6; refine (child_zero _ _ _ _ _ (kd % 10) ins 1 _ _ ⟨by simp, by simp [go_sem], by simp [go_sem], by simp [go_sem]⟩ HD.out (by decide)).mono ?_; rintro e w1 ⟨rfl, hb1⟩; obtain ⟨hc, hf⟩ := bcell hb1; have hz : w.heap.size < w1.heap.size := (by have := hb1.size; simp at this; omega); have hz' : w.heap.size + 1 < w1.heap.size := (by have := hb1.size; simp at this; omega))
  go_ret
  have B1 := (((Below.refl w.heap.size w).alloc (Nat.le_refl _) _).alloc (by simp) _).trans (hb1.mono (by simp; omega))
  exact ⟨rfl, (B1.alloc B1.size _).alloc (by have := B1.size; simp; omega) _⟩

set_option maxRecDepth 100000 in
set_option maxHeartbeats 2000000 in
theorem lawA_z2 (a i p t kd ins : Int) (w : World) (hk : 0 ≤ kd ∧ kd ≤ 255) (hp : p ≠ 0) (ht : t ≠ 0) :
    Calls Yba.prog 3 #[.agg #[.int .i64 a, .int .i64 i, .int .i64 p, .int .i64 t, .int .i64 0, .int .i64 0, .int .i64 0, .int .i64 0], .int .u8 kd, .int .i64 0, .int .i64 ins] w fun e w' => e = .returned (.bool true) ∧ Below w.heap.size w w' := by
  obtain ⟨hk0, hk1⟩ := hk
  have hpn : (p != 0) = true := by simpa using hp
  have hpe : (p == 0) = false := by simpa using hp
  have htn : (t != 0) = true := by simpa using ht
  have hte : (t == 0) = false := by simpa using ht
  have HD : Hid (dep p t 0 = 2) := by simp_all [dep, Hid]
  have hnil := nil26
  have heq := eq23
  go_enter Yba.func3, Yba.ntmps3
  go_wp2_with (go_at_call 6; refine (child_zero _ _ _ _ _ (kd % 10) ins 2 _ _ ⟨by simp, by simp [go_sem], by simp [go_sem], by simp [go_sem]⟩ HD.out (by decide)).mono ?_; rintro e w1 ⟨rfl, hb1⟩; obtain ⟨hc, hf⟩ := bcell hb1; have hz : w.heap.size < w1.heap.size := (by have := hb1.size; simp at this; omega); have hz' : w.heap.size + 1 < w1.heap.size := (by have := hb1.size; simp at this; omega))
  go_ret
  have B1 := (((Below.refl w.heap.size w).alloc (Nat.le_refl _) _).alloc (by simp) _).trans (hb1.mono (by simp; omega))
  exact ⟨rfl, (B1.alloc B1.size _).alloc (by have := B1.size; simp; omega) _⟩

set_option maxRecDepth 100000 in
set_option maxHeartbeats 2000000 in
theorem lawA_1 (a i t u kd num ins : Int) (w : World) (hk : 0 ≤ kd ∧ kd ≤ 255) (hn : num ≠ 0) :
    Calls Yba.prog 3 #[.agg #[.int .i64 a, .int .i64 i, .int .i64 0, .int .i64 t, .int .i64 0, .int .i64 0, .int .i64 0, .int .i64 u], .int .u8 kd, .int .i64 num, .int .i64 ins] w fun e w' => e = .returned (.bool true) ∧ Below w.heap.size w w' := by
  obtain ⟨hk0, hk1⟩ := hk
  have hnn : (num != 0) = true := by simpa using hn
  have hne : (num == 0) = false := by simpa using hn
  have HD : Hid (dep 0 t u = 0) := by simp_all [dep, Hid]
  have hnil := nil26
  have heq := eq23
  go_enter Yba.func3, Yba.ntmps3
  go_wp2_with (go_at_call 6; refine (child_1 _ _ _ _ _ (kd % 10) num ins _ _ ⟨by simp, by simp [go_sem], by simp [go_sem], by simp [go_sem]⟩ HD.out hn).mono ?_; rintro e w1 ⟨rfl, hb1⟩; obtain ⟨hc, hf⟩ := bcell hb1; have hz : w.heap.size < w1.heap.size := (by have := hb1.size; simp at this; omega); have hz' : w.heap.size + 1 < w1.heap.size := (by have := hb1.size; simp at this; omega))
  go_ret
  have B1 := (((Below.refl w.heap.size w).alloc (Nat.le_refl _) _).alloc (by simp) _).trans (hb1.mono (by simp; omega))
  exact ⟨rfl, (B1.alloc B1.size _).alloc (by have := B1.size; simp; omega) _⟩

set_option maxRecDepth 100000 in
set_option maxHeartbeats 2000000 in
theorem lawA_2 (a i p u kd num ins : Int) (w : World) (hk : 0 ≤ kd ∧ kd ≤ 255) (hn : num ≠ 0) (hp : p ≠ 0) :
    Calls Yba.prog 3 #[.agg #[.int .i64 a, .int .i64 i, .int .i64 p, .int .i64 0, .int .i64 0, .int .i64 0, .int .i64 0, .int .i64 u], .int .u8 kd, .int .i64 num, .int .i64 ins] w fun e w' => e = .returned (.bool true) ∧ Below w.heap.size w w' := by
  obtain ⟨hk0, hk1⟩ := hk
  have hnn : (num != 0) = true := by simpa using hn
  have hne : (num == 0) = false := by simpa using hn
  have hpn : (p != 0) = true := by simpa using hp
  have hpe : (p == 0) = false := by simpa using hp
  have HD : Hid (dep p 0 u = 1) := by simp_all [dep, Hid]
  have hnil := nil26
  have heq := eq23
  go_enter Yba.func3, Yba.ntmps3
  go_wp2_with (go_at_call 6; refine (child_2 _ _ _ _ _ (kd % 10) num ins _ _ ⟨by simp, by simp [go_sem], by simp [go_sem], by simp [go_sem]⟩ HD.out hn).mono ?_; rintro e w1 ⟨rfl, hb1⟩; obtain ⟨hc, hf⟩ := bcell hb1; have hz : w.heap.size < w1.heap.size := (by have := hb1.size; simp at this; omega); have hz' : w.heap.size + 1 < w1.heap.size := (by have := hb1.size; simp at this; omega))
  go_ret
  have B1 := (((Below.refl w.heap.size w).alloc (Nat.le_refl _) _).alloc (by simp) _).trans (hb1.mono (by simp; omega))
  exact ⟨rfl, (B1.alloc B1.size _).alloc (by have := B1.size; simp; omega) _⟩

set_option maxRecDepth 100000 in
set_option maxHeartbeats 2000000 in
theorem lawA_3 (a i p t kd num ins : Int) (w : World) (hk : 0 ≤ kd ∧ kd ≤ 255) (hn : num ≠ 0) (hp : p ≠ 0) (ht : t ≠ 0) :
    Calls Yba.prog 3 #[.agg #[.int .i64 a, .int .i64 i, .int .i64 p, .int .i64 t, .int .i64 0, .int .i64 0, .int .i64 0, .int .i64 0], .int .u8 kd, .int .i64 num, .int .i64 ins] w fun e w' => e = .returned (.bool true) ∧ Below w.heap.size w w' := by
  obtain ⟨hk0, hk1⟩ := hk
  have hnn : (num != 0) = true := by simpa using hn
  have hne : (num == 0) = false := by simpa using hn
  have hpn : (p != 0) = true := by simpa using hp
  have hpe : (p == 0) = false := by simpa using hp
  have htn : (t != 0) = true := by simpa using ht
  have hte : (t == 0) = false := by simpa using ht
  have HD : Hid (dep p t 0 = 2) := by simp_all [dep, Hid]
  have hnil := nil26
  have heq := eq23
  go_enter Yba.func3, Yba.ntmps3
  go_wp2_with (go_at_call 6; refine (child_3 _ _ _ _ _ (kd % 10) num ins _ _ ⟨by simp, by simp [go_sem], by simp [go_sem], by simp [go_sem]⟩ HD.out hn).mono ?_; rintro e w1 ⟨rfl, hb1⟩; obtain ⟨hc, hf⟩ := bcell hb1; have hz : w.heap.size < w1.heap.size := (by have := hb1.size; simp at this; omega); have hz' : w.heap.size + 1 < w1.heap.size := (by have := hb1.size; simp at this; omega))
  go_ret
  have B1 := (((Below.refl w.heap.size w).alloc (Nat.le_refl _) _).alloc (by simp) _).trans (hb1.mono (by simp; omega))
  exact ⟨rfl, (B1.alloc B1.size _).alloc (by have := B1.size; simp; omega) _⟩

end Go.Proofs.Ybulkdpti

/- S5830C: slices.rotateCmpFunc. -/
import Derived.Test.YbulkdpsgC1
import Derived.Sort.LotA
namespace Go.Proofs.Ybulkdpsg
open Go Go.RowKit Go.Sort Go.Proofs Go.Lib
set_option linter.unusedVariables false

theorem swapR_get (d : Array Tk) (a b : Nat) : ∀ n, a + n ≤ b → b + n ≤ d.size → ∀ k, (swapR d a b n)[k]! = if a ≤ k ∧ k < a + n then d[b + (k - a)]! else if b ≤ k ∧ k < b + n then d[a + (k - b)]! else d[k]! := by
  intro n
  induction n with
  | zero => intro _ _ k; rw [if_neg (by omega), if_neg (by omega)]; rfl
  | succ n ih =>
    intro h1 h2 k
    have ih := ih (by omega) (by omega)
    have hs := swapR_size d a b n
    show (swp (swapR d a b n) (a + n) (b + n))[k]! = _
    rw [swp_get _ (by omega) (by omega)]
    split
    · rename_i e
      subst e
      rw [ih, if_neg (by omega), if_neg (by omega), if_neg (by omega), if_pos (by omega)]
      congr 1; omega
    · rename_i e
      split
      · rename_i e2
        subst e2
        rw [ih, if_neg (by omega), if_neg (by omega), if_pos (by omega)]
        congr 1; omega
      · rename_i e2
        rw [ih]
        by_cases c1 : a ≤ k ∧ k < a + n
        · rw [if_pos c1, if_pos (by omega)]
        · by_cases c2 : b ≤ k ∧ k < b + n
          · rw [if_neg c1, if_pos c2, if_neg (by omega), if_pos (by omega)]
          · rw [if_neg c1, if_neg c2, if_neg (by omega), if_neg (by omega)]

/-- d' is d, the stretches [a, m) and [m, b) in each other's place. -/
structure IsRot (d d' : Array Tk) (a m b : Nat) : Prop where
  size : d'.size = d.size
  get : ∀ k, k < d.size → d'[k]! = if a ≤ k ∧ k < a + (b - m) then d[k - a + m]! else if a + (b - m) ≤ k ∧ k < b then d[k - (b - m)]! else d[k]!

theorem rot_gt (d d' : Array Tk) (m i j : Nat) (hi : i ≤ m) (hj : 0 < j) (hij : j < i) (hb : m + j ≤ d.size) (h : IsRot (swapR d (m - i) m j) d' (m - (i - j)) m (m + j)) : IsRot d d' (m - i) m (m + j) := by
  have hs := swapR_size d (m - i) m j
  refine ⟨h.size.trans hs, fun k hk => ?_⟩
  have g := swapR_get d (m - i) m j (by omega) (by omega)
  rw [h.get k (by omega), g, g, g]
  by_cases c1 : m - i ≤ k ∧ k < m - i + j
  · rw [if_neg (by omega), if_neg (by omega), if_pos c1, if_pos (by omega)]
    congr 1; omega
  · by_cases c2 : m - (i - j) ≤ k ∧ k < m - (i - j) + (m + j - m)
    · rw [if_pos c2, if_neg (by omega), if_pos (by omega), if_neg (by omega), if_pos (by omega)]
      congr 1; omega
    · by_cases c3 : m - (i - j) + (m + j - m) ≤ k ∧ k < m + j
      · rw [if_neg c2, if_pos c3, if_neg (by omega), if_neg (by omega), if_neg (by omega), if_pos (by omega)]
      · rw [if_neg c2, if_neg c3, if_neg c1, if_neg (by omega), if_neg (by omega), if_neg (by omega)]
theorem rot_lt (d d' : Array Tk) (m i j : Nat) (hi : i ≤ m) (hi0 : 0 < i) (hij : i < j) (hb : m + j ≤ d.size) (h : IsRot (swapR d (m - i) (m + j - i) i) d' (m - i) m (m + (j - i))) : IsRot d d' (m - i) m (m + j) := by
  have hs := swapR_size d (m - i) (m + j - i) i
  refine ⟨h.size.trans hs, fun k hk => ?_⟩
  have g := swapR_get d (m - i) (m + j - i) i (by omega) (by omega)
  rw [h.get k (by omega), g, g, g]
  by_cases c1 : m - i ≤ k ∧ k < m - i + (m + (j - i) - m)
  · rw [if_pos c1, if_neg (by omega), if_neg (by omega), if_pos (by omega)]
  · by_cases c2 : m - i + (m + (j - i) - m) ≤ k ∧ k < m + (j - i)
    · rw [if_neg c1, if_pos c2, if_pos (by omega), if_pos (by omega)]
      congr 1; omega
    · by_cases c3 : m + j - i ≤ k ∧ k < m + j
      · rw [if_neg c1, if_neg c2, if_neg (by omega), if_pos (by omega), if_neg (by omega), if_pos (by omega)]
        congr 1; omega
      · rw [if_neg c1, if_neg c2, if_neg (by omega), if_neg (by omega), if_neg (by omega), if_neg (by omega)]
theorem rot_eq (d : Array Tk) (m i : Nat) (hi : i ≤ m) (hb : m + i ≤ d.size) : IsRot d (swapR d (m - i) m i) (m - i) m (m + i) := by
  refine ⟨swapR_size d (m - i) m i, fun k hk => ?_⟩
  rw [swapR_get d (m - i) m i (by omega) (by omega)]
  by_cases c1 : m - i ≤ k ∧ k < m - i + i
  · rw [if_pos c1, if_pos (by omega)]; congr 1; omega
  · by_cases c2 : m ≤ k ∧ k < m + i
    · rw [if_neg c1, if_pos c2, if_neg (by omega), if_pos (by omega)]; congr 1; omega
    · rw [if_neg c1, if_neg c2, if_neg (by omega), if_neg (by omega)]

/-- w' is w but for the tasks' row, which holds d; blocks may lie behind. -/
structure Tw (w w' : World) (blk : Nat) (d : Array Tk) : Prop where
  holds : HoldsK encT 5 w' blk 0 d
  grown : w.grownBy w' (some blk)
theorem Tw.trans {a b c : World} {blk : Nat} {d d' : Array Tk} (h : Tw a b blk d) (k : Tw b c blk d') : Tw a c blk d' := ⟨k.holds, h.grown.trans k.grown⟩
theorem Tw.refl {w : World} {blk : Nat} {d : Array Tk} (h : HoldsK encT 5 w blk 0 d) : Tw w w blk d := ⟨h, ⟨rfl, rfl, rfl, Nat.le_refl _, fun _ _ _ => rfl⟩⟩
theorem Tw.lt {a b : World} {blk : Nat} {d : Array Tk} (h : Tw a b blk d) (hb : blk < a.heap.size) : blk < b.heap.size := Nat.lt_of_lt_of_le hb h.grown.size
theorem tw_Tw (w : World) (blk q : Nat) (d d' : Array Tk) (os : Array Obj) (hH : HoldsK encT 5 w blk 0 d) (hblk : blk < w.heap.size) (hs : d'.size = d.size) : Tw w (tw w blk q d' os) blk d' := by
  refine ⟨holdsK_sortWorldK_c encT 5 w blk 0 d d' _ _ hH hblk hs, rfl, rfl, rfl, size_sortWorldK_c encT 5 w blk 0 q d' os, fun k hk hne => ?_⟩
  have hne' : blk ≠ k := fun e => hne (by rw [e])
  unfold tw sortWorldK grow
  show (((putRowK encT 5 (Sort.ahead w q) blk 0 d').heap ++ os) : Array Obj)[k]? = _
  have hsz : (putRowK encT 5 (Sort.ahead w q) blk 0 d').heap.size = w.heap.size := size_putRowK encT 5 (Sort.ahead w q) blk 0 d'
  rw [Array.getElem?_append_left (by omega)]
  unfold putRowK putRow mapBlock
  simp [Array.getElem?_modify, hne', Sort.ahead]

set_option maxHeartbeats 4000000 in
set_option maxRecDepth 1000000 in
theorem rotate (blk cap a m b : Nat) (d : Array Tk) (fv : Value) (w : World) (hH : HoldsK encT 5 w blk 0 d) (hblk : blk < w.heap.size) (ham : a < m) (hmb : m < b) (hb : b ≤ d.size) (hsz : d.size ≤ 2048) :
    Calls Yba.prog 67 #[.slice (some ⟨blk, 0, none⟩) d.size cap, .int .i64 (a : Int), .int .i64 (m : Int), .int .i64 (b : Int), fv] w fun e w' => e = .returned (.tuple #[]) ∧ ∃ d', IsRot d d' a m b ∧ Tw w w' blk d' := by
  have HST : Hid (Tw w w blk d) := Tw.refl hH
  clear hH
  go_enter Yba.func67, Yba.ntmps67
  go_wp2
  go_loopw [10, 11] (fun si sj wr => ∃ (i j : Nat) (dk : Array Tk), si = .int .i64 (i : Int) ∧ sj = .int .i64 (j : Int) ∧ 0 < i ∧ 0 < j ∧ a + i ≤ m ∧ m + j ≤ b ∧ dk.size = d.size ∧ Hid (Tw w wr blk dk) ∧ Hid (∀ d', IsRot dk d' (m - i) m (m + j) → IsRot d d' a m b)) (fun si sj _ => (intOf si).toNat + (intOf sj).toNat)
  case atStart =>
    refine ⟨m - a, b - m, d, by go_num, by go_num, by omega, by omega, by omega, by omega, rfl, HST, (show Hid _ from fun d' h => ?_)⟩
    have e1 : m - (m - a) = a := by omega
    have e2 : m + (b - m) = b := by omega
    rwa [e1, e2] at h
  case round =>
    obtain ⟨i, j, dk, rfl, rfl, hi0, hj0, hia, hjb, hds, hwr, hinv⟩ := hrel
    have hbk : blk < wr.heap.size := hwr.out.lt hblk
    rcases Nat.lt_trichotomy j i with hij | hij | hij
    · have hc := swapRange blk cap (m - i) m j dk fv wr hwr.out.holds hbk (by omega) (by omega) (by omega)
      rw [hds] at hc
      have hz1 : (i : Int) ≠ (j : Int) := by omega
      have hz2 : (j : Int) < (i : Int) := by omega
      have hmi : (m : Int) - (i : Int) = ((m - i : Nat) : Int) := by omega
      go_wp2_with (go_at_call 71; refine hc.mono ?_; rintro e w' ⟨rfl, q', hw'⟩)
      go_roundw
      case rel =>
        refine ⟨i - j, j, swapR dk (m - i) m j, by go_num, rfl, by omega, hj0, by omega, hjb, (swapR_size _ _ _ _).trans hds, hwr.out.trans (tw_Tw wr blk q' dk _ #[] hwr.out.holds hbk (swapR_size _ _ _ _)), (show Hid _ from fun d' h => ?_)⟩
        exact hinv.out d' (rot_gt dk d' m i j (by omega) hj0 hij (by omega) h)
      case measure => simp [intOf]; omega
    · subst hij
      have hc := swapRange blk cap (m - j) m j dk fv wr hwr.out.holds hbk (by omega) (by omega) (by omega)
      rw [hds] at hc
      have hmi : (m : Int) - (j : Int) = ((m - j : Nat) : Int) := by omega
      go_wp2_with (go_at_call 71; refine hc.mono ?_; rintro e w' ⟨rfl, q', hw'⟩)
      go_end0
      exact ⟨rfl, swapR dk (m - j) m j, hinv.out _ (rot_eq dk m j (by omega) (by omega)), hwr.out.trans (tw_Tw wr blk q' dk _ #[] hwr.out.holds hbk (swapR_size _ _ _ _))⟩
    · have hc := swapRange blk cap (m - i) (m + j - i) i dk fv wr hwr.out.holds hbk (by omega) (by omega) (by omega)
      rw [hds] at hc
      have hz1 : (i : Int) ≠ (j : Int) := by omega
      have hz2 : ¬ (j : Int) < (i : Int) := by omega
      have hmi : (m : Int) - (i : Int) = ((m - i : Nat) : Int) := by omega
      have hmj : (m : Int) + (j : Int) - (i : Int) = ((m + j - i : Nat) : Int) := by omega
      go_wp2_with (go_at_call 71; refine hc.mono ?_; rintro e w' ⟨rfl, q', hw'⟩)
      go_roundw
      case rel =>
        refine ⟨i, j - i, swapR dk (m - i) (m + j - i) i, rfl, by go_num, hi0, by omega, hia, by omega, (swapR_size _ _ _ _).trans hds, hwr.out.trans (tw_Tw wr blk q' dk _ #[] hwr.out.holds hbk (swapR_size _ _ _ _)), (show Hid _ from fun d' h => ?_)⟩
        exact hinv.out d' (rot_lt dk d' m i j (by omega) hi0 hij (by omega) h)
      case measure => simp [intOf]; omega
end Go.Proofs.Ybulkdpsg

/- S5830C: symMerge's split and its joining. -/
import Derived.Test.YbulkdpsgC6
namespace Go.Proofs.Ybulkdpsg
open Go Go.Sort
set_option linter.unusedVariables false

/-- What the binary search has found. -/
structure Found (d : Array Tk) (a m b mid start fin lo hi : Nat) : Prop where
  s1 : ∀ c, lo ≤ c → c < start → lexT d[mid + m - 1 - c]! d[c]! = false
  s2 : ∀ c, start ≤ c → c < hi → lexT d[mid + m - 1 - c]! d[c]! = true
  lohi : (mid < m ∧ lo + b = mid + m ∧ hi = mid) ∨ (m ≤ mid ∧ lo = a ∧ hi = m)
  los : lo ≤ start
  shi : start ≤ hi
  fin : fin + start = mid + m

structure Split (d1 : Array Tk) (a mid b start fin : Nat) : Prop where
  r1 : SortedIn lexT a start d1
  r2 : SortedIn lexT start mid d1
  r3 : SortedIn lexT mid fin d1
  r4 : SortedIn lexT fin b d1
  l1 : RowsLR a start mid d1
  l2 : RowsLR mid fin b d1
  x : ∀ p q, a ≤ p → p < mid → mid ≤ q → q < b → lexT d1[q]! d1[p]! = false

theorem le_of_sorted {d : Array Tk} {a b p q : Nat} (h : SortedIn lexT a b d) (hp : a ≤ p) (hpq : p ≤ q) (hq : q < b) : lexT d[q]! d[p]! = false := by
  rcases Nat.lt_or_eq_of_le hpq with h' | h'
  · exact h p q hp h' hq
  · subst h'; exact swo_lex.irrefl _

theorem split_ok {d d1 : Array Tk} {a m b mid start fin lo hi : Nat} (ha : a + 2 ≤ m) (hm : m + 2 ≤ b) (hb : b ≤ d.size) (hmid : mid = (a + b) / 2) (hL : SortedIn lexT a m d) (hR : SortedIn lexT m b d) (hrow : RowsLR a m b d) (F : Found d a m b mid start fin lo hi) (hr : IsRot d d1 start m fin) :
    a ≤ start ∧ start ≤ m ∧ start ≤ mid ∧ m ≤ fin ∧ mid ≤ fin ∧ fin ≤ b ∧ Split d1 a mid b start fin := by
  obtain ⟨s1, s2, lohi, los, shi, hfin⟩ := F
  have b1 : a ≤ start := by omega
  have b2 : start ≤ m := by omega
  have b3 : start ≤ mid := by omega
  have b4 : m ≤ fin := by omega
  have b5 : mid ≤ fin := by omega
  have b6 : fin ≤ b := by omega
  have g1 : ∀ k, a ≤ k → k < start → d1[k]! = d[k]! := fun k h1 h2 => by rw [hr.get k (by omega), if_neg (by omega), if_neg (by omega)]
  have g2 : ∀ k, start ≤ k → k < mid → d1[k]! = d[k - start + m]! := fun k h1 h2 => by rw [hr.get k (by omega), if_pos (by omega)]
  have g3 : ∀ k, mid ≤ k → k < fin → d1[k]! = d[k - (fin - m)]! := fun k h1 h2 => by rw [hr.get k (by omega), if_neg (by omega), if_pos (by omega)]
  have g4 : ∀ k, fin ≤ k → k < b → d1[k]! = d[k]! := fun k h1 h2 => by rw [hr.get k (by omega), if_neg (by omega), if_neg (by omega)]
  refine ⟨b1, b2, b3, b4, b5, b6, ?_, ?_, ?_, ?_, ?_, ?_, ?_⟩
  · intro p q h1 h2 h3
    rw [g1 p h1 (by omega), g1 q (by omega) h3]
    exact hL p q h1 h2 (by omega)
  · intro p q h1 h2 h3
    rw [g2 p h1 (by omega), g2 q (by omega) h3]
    exact hR _ _ (by omega) (by omega) (by omega)
  · intro p q h1 h2 h3
    rw [g3 p h1 (by omega), g3 q (by omega) h3]
    exact hL _ _ (by omega) (by omega) (by omega)
  · intro p q h1 h2 h3
    rw [g4 p h1 (by omega), g4 q (by omega) h3]
    exact hR p q (by omega) h2 h3
  · intro p q h1 h2 h3 h4
    rw [g1 p h1 h2, g2 q h3 h4]
    exact hrow _ _ h1 (by omega) (by omega) (by omega)
  · intro p q h1 h2 h3 h4
    rw [g3 p h1 h2, g4 q h3 h4]
    exact hrow _ _ (by omega) (by omega) (by omega) h4
  · intro p q h1 h2 h3 h4
    by_cases c1 : p < start
    · rw [g1 p h1 c1]
      by_cases c2 : q < fin
      · rw [g3 q h3 c2]
        exact le_of_sorted hL h1 (by omega) (by omega)
      · rw [g4 q (by omega) h4]
        have k1 := s1 (start - 1) (by omega) (by omega)
        have e : mid + m - 1 - (start - 1) = fin := by omega
        rw [e] at k1
        exact lex_le_trans (le_of_sorted hL h1 (show p ≤ start - 1 by omega) (by omega)) (lex_le_trans k1 (le_of_sorted hR b4 (by omega) h4))
    · rw [g2 p (by omega) h2]
      by_cases c2 : q < fin
      · rw [g3 q h3 c2]
        have k2 := lex_asymm (s2 start (Nat.le_refl _) (by omega))
        have e : mid + m - 1 - start = fin - 1 := by omega
        rw [e] at k2
        exact lex_le_trans (le_of_sorted hR (by omega) (show p - start + m ≤ fin - 1 by omega) (by omega)) (lex_le_trans k2 (le_of_sorted hL b1 (show start ≤ q - (fin - m) by omega) (by omega)))
      · rw [g4 q (by omega) h4]
        exact le_of_sorted hR (by omega) (by omega) h4

/-- Both halves sorted: the whole is. -/
theorem join_ok {d d1 d2 d3 : Array Tk} {a m b mid start fin : Nat} (hb : b ≤ d.size) (ham : a ≤ start) (hsm : start ≤ m) (hmf : m ≤ fin) (hfb : fin ≤ b) (hamid : a ≤ mid) (hmidb : mid ≤ b) (hr : IsRot d d1 start m fin) (S : Split d1 a mid b start fin)
    (p2 : PermIn a mid d1 d2) (o2 : SortedIn lexT a mid d2) (p3 : PermIn mid b d2 d3) (o3 : SortedIn lexT mid b d3) : PermIn a b d d3 ∧ SortedIn lexT a b d3 := by
  have z1 : d1.size = d.size := hr.size
  have z2 : d2.size = d.size := p2.1.trans z1
  refine ⟨?_, fun p q h1 h2 h3 => ?_⟩
  · exact permIn_trans _ _ _ _ _ (permIn_trans _ _ _ _ _ (permIn_mono _ _ _ _ _ _ ham hfb hb (rot_perm hr hsm hmf (by omega))) (permIn_mono _ _ _ _ _ _ (Nat.le_refl _) hmidb (by omega) p2)) (permIn_mono _ _ _ _ _ _ hamid (Nat.le_refl _) (by omega) p3)
  · have same : ∀ i, a ≤ i → i < mid → d3[i]! = d2[i]! := fun i _ hi => p3.2.1 i (Or.inl hi)
    by_cases c : q < mid
    · rw [same p h1 (by omega), same q (by omega) c]
      exact o2 p q h1 h2 c
    · by_cases c2 : p < mid
      · rw [same p h1 c2]
        -- every element of the right half of d3 is one of d2's, which is d1's
        have hx : ∀ i, mid ≤ i → i < b → ∀ j, a ≤ j → j < mid → lexT d2[i]! d2[j]! = false := by
          intro i hi1 hi2 j hj1 hj2
          rw [p2.2.1 i (Or.inr hi1)]
          exact permIn_all d1 d2 a mid (fun y => lexT d1[i]! y = false) (by omega) p2 (fun k hk1 hk2 => S.x k i hk1 hk2 hi1 hi2) j hj1 hj2
        exact permIn_all d2 d3 mid b (fun y => lexT y d2[p]! = false) (by omega) p3 (fun k hk1 hk2 => hx k hk1 hk2 p h1 c2) q (by omega) h3
      · exact o3 p q (by omega) h2 h3
end Go.Proofs.Ybulkdpsg

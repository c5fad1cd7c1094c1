/- S5830C: slices.symMergeCmpFunc: the general case. -/
import Derived.Test.YbulkdpsgC8
import Derived.Deep.DeepCutAuto
namespace Go.Proofs.Ybulkdpsg
open Go Go.RowKit Go.Sort Go.Proofs Go.Lib
set_option linter.unusedVariables false

/-- What symMerge does between a, m and b, in every world that holds d. -/
def SymOk (blk cap : Nat) (a m b : Nat) (d : Array Tk) (w : World) : Prop :=
  Calls Yba.prog 60 #[.slice (some ⟨blk, 0, none⟩) d.size cap, .int .i64 (a : Int), .int .i64 (m : Int), .int .i64 (b : Int), .func (.func 33) #[] #[]] w fun e w' => e = .returned (.tuple #[]) ∧ ∃ d', Tw w w' blk d' ∧ PermIn a b d d' ∧ SortedIn lexT a b d'
/-- .. for all that are smaller. -/
def SymIH (blk cap N S : Nat) : Prop := ∀ (a m b : Nat) (d : Array Tk) (w : World), d.size = S → b - a < N → a < m → m < b → b ≤ d.size → HoldsK encT 5 w blk 0 d → blk < w.heap.size → SortedIn lexT a m d → SortedIn lexT m b d → RowsLR a m b d → SymOk blk cap a m b d w

/-- The search so far. -/
structure Srch (d : Array Tk) (pp lo hi s r : Nat) : Prop where
  s1 : ∀ c, lo ≤ c → c < s → lexT d[pp - c]! d[c]! = false
  s2 : ∀ c, r ≤ c → c < hi → lexT d[pp - c]! d[c]! = true
structure Rng (a m b mid lo hi : Nat) : Prop where
  ha : a + 2 ≤ m
  hm : m + 2 ≤ b
  hmid : mid = (a + b) / 2
  lohi : (mid < m ∧ lo + b = mid + m ∧ hi = mid) ∨ (m ≤ mid ∧ lo = a ∧ hi = m)
theorem Srch.up {d : Array Tk} {a m b mid lo hi s r c : Nat} (R : Rng a m b mid lo hi) (hL : SortedIn lexT a m d) (hR : SortedIn lexT m b d) (h : Srch d (mid + m - 1) lo hi s r) (hc1 : lo ≤ c) (hc2 : c < hi) (hx : lexT d[mid + m - 1 - c]! d[c]! = false) : Srch d (mid + m - 1) lo hi (c + 1) r := by
  obtain ⟨ha, hm, hmid, lohi⟩ := R
  refine ⟨fun c' h1 h2 => ?_, h.s2⟩
  exact lex_le_trans (le_of_sorted hL (by omega) (show c' ≤ c by omega) (by omega)) (lex_le_trans hx (le_of_sorted hR (by omega) (show mid + m - 1 - c ≤ mid + m - 1 - c' by omega) (by omega)))
theorem Srch.down {d : Array Tk} {a m b mid lo hi s r c : Nat} (R : Rng a m b mid lo hi) (hL : SortedIn lexT a m d) (hR : SortedIn lexT m b d) (h : Srch d (mid + m - 1) lo hi s r) (hc1 : lo ≤ c) (hc2 : c < hi) (hx : lexT d[mid + m - 1 - c]! d[c]! = true) : Srch d (mid + m - 1) lo hi s c := by
  obtain ⟨ha, hm, hmid, lohi⟩ := R
  refine ⟨h.s1, fun c' h1 h2 => ?_⟩
  exact lex_lt_of (lex_lt_of' hx (le_of_sorted hR (by omega) (show mid + m - 1 - c' ≤ mid + m - 1 - c by omega) (by omega))) (le_of_sorted hL (by omega) h1 (by omega))

end Go.Proofs.Ybulkdpsg

/- S5830C: the blocks of slices.stableCmpFunc: plain laws. -/
import Derived.Test.YbulkdpsgC9a
namespace Go.Proofs.Ybulkdpsg
open Go Go.Sort
set_option linter.unusedVariables false

/-- A block's border lies between p and q. -/
def Sep (s p q : Nat) : Prop := ∃ i, p < i * s ∧ i * s ≤ q
theorem sep_two {s p q : Nat} (h : Sep (2 * s) p q) : Sep s p q := by
  obtain ⟨i, h1, h2⟩ := h
  exact ⟨i * 2, by rw [Nat.mul_assoc]; exact h1, by rw [Nat.mul_assoc]; exact h2⟩
/-- No border inside a block. -/
theorem not_sep {s i a b p q : Nat} (ha : a = i * s) (hb : b ≤ a + s) (hp : a ≤ p) (hq : q < b) : ¬ Sep s p q := by
  rintro ⟨j, h1, h2⟩
  by_cases h : j ≤ i
  · have := Nat.mul_le_mul_right s h; omega
  · have := Nat.mul_le_mul_right s (show i + 1 ≤ j by omega)
    rw [Nat.add_mul, Nat.one_mul] at this; omega
theorem sep_at {s i a p q : Nat} (ha : a = i * s) (hp : p < a) (hq : a ≤ q) : Sep s p q := ⟨i, by omega, by omega⟩

theorem rows_keep {d d' : Array Tk} {a b n : Nat} (hp : PermIn a b d d') (hbn : b ≤ d.size) (R R' : Nat → Nat → Prop) (old : ∀ p q, p < q → q < n → R p q → (d[p]!).row < (d[q]!).row)
    (imp : ∀ p q, p < q → R' p q → ¬ (a ≤ p ∧ q < b))
    (h1 : ∀ p q, p < q → q < n → R' p q → (p < a ∨ b ≤ p) → (q < a ∨ b ≤ q) → R p q)
    (h2 : ∀ p q, R' p q → p < a → a ≤ q → q < b → ∀ k, a ≤ k → k < b → R p k)
    (h3 : ∀ p q, R' p q → q < n → a ≤ p → p < b → b ≤ q → ∀ k, a ≤ k → k < b → R k q) (hbn' : b ≤ n) :
    ∀ p q, p < q → q < n → R' p q → (d'[p]!).row < (d'[q]!).row := by
  intro p q hpq hq hr
  by_cases c1 : p < a ∨ b ≤ p
  · rw [hp.2.1 p c1]
    by_cases c2 : q < a ∨ b ≤ q
    · rw [hp.2.1 q c2]; exact old p q hpq hq (h1 p q hpq hq hr c1 c2)
    · have hpa : p < a := by omega
      exact permIn_all d d' a b (fun y => (d[p]!).row < y.row) hbn hp (fun k hk1 hk2 => old p k (by omega) (by omega) (h2 p q hr hpa (by omega) (by omega) k hk1 hk2)) q (by omega) (by omega)
  · by_cases c2 : q < b
    · exact absurd ⟨by omega, c2⟩ (imp p q hpq hr)
    · rw [hp.2.1 q (Or.inr (by omega))]
      exact permIn_all d d' a b (fun y => y.row < (d[q]!).row) hbn hp (fun k hk1 hk2 => old k q (by omega) hq (h3 p q hr hq (by omega) (by omega) (by omega) k hk1 hk2)) p (by omega) (by omega)

theorem sorted_keep {d d' : Array Tk} {a b n : Nat} (hp : PermIn a b d d') (ho : SortedIn lexT a b d') (R R' : Nat → Nat → Prop) (old : ∀ p q, p < q → q < n → R p q → lexT d[q]! d[p]! = false)
    (h1 : ∀ p q, p < q → q < n → R' p q → (a ≤ p ∧ q < b) ∨ ((p < a ∨ b ≤ p) ∧ (q < a ∨ b ≤ q) ∧ R p q)) :
    ∀ p q, p < q → q < n → R' p q → lexT d'[q]! d'[p]! = false := by
  intro p q hpq hq hr
  rcases h1 p q hpq hq hr with h | ⟨c1, c2, c3⟩
  · exact ho p q h.1 hpq h.2
  · rw [hp.2.1 p c1, hp.2.1 q c2]; exact old p q hpq hq c3

structure Blk (R S : Nat → Nat → Prop) (n : Nat) (d : Array Tk) : Prop where
  rows : ∀ p q, p < q → q < n → R p q → (d[p]!).row < (d[q]!).row
  sort : ∀ p q, p < q → q < n → S p q → lexT d[q]! d[p]! = false
/-- .. with blocks of 20 sorted up to a. -/
def L1 (a n : Nat) (d : Array Tk) : Prop := Blk (fun p q => Sep 20 p q ∨ a ≤ p) (fun p q => q < a ∧ ¬ Sep 20 p q) n d
/-- .. with all blocks of s sorted. -/
def L2 (s n : Nat) (d : Array Tk) : Prop := Blk (fun p q => Sep s p q) (fun p q => ¬ Sep s p q) n d
/-- .. with blocks of 2 s up to a, of s from there on. -/
def L3 (a s n : Nat) (d : Array Tk) : Prop := Blk (fun p q => Sep (2 * s) p q ∨ (a ≤ p ∧ Sep s p q)) (fun p q => (q < a ∧ ¬ Sep (2 * s) p q) ∨ (a ≤ p ∧ ¬ Sep s p q)) n d

theorem L1.start {n : Nat} {d : Array Tk} (h : Asc 0 n 0 d) : L1 0 n d := ⟨fun p q hpq hq _ => h p q (Nat.zero_le _) hpq (Nat.zero_le _) hq, fun p q _ _ h => by omega⟩
theorem L1.asc {a b n : Nat} {d : Array Tk} (h : L1 a n d) (hb : b ≤ n) : Asc a b a d := fun p q h1 h2 _ h4 => h.rows p q h2 (by omega) (Or.inr h1)
theorem L1.step {a b n i : Nat} {d d' : Array Tk} (h : L1 a n d) (ha : a = i * 20) (hb : b = a + 20) (hbn : b ≤ n) (hn : n ≤ d.size) (hp : PermIn a b d d') (ho : SortedIn lexT a b d') : L1 b n d' := by
  refine ⟨rows_keep hp (by omega) _ _ h.rows ?_ ?_ ?_ ?_ hbn, sorted_keep hp ho _ _ h.sort ?_⟩
  · rintro p q hpq (hs | hs) ⟨k1, k2⟩
    · exact not_sep ha (by omega) k1 k2 hs
    · omega
  · rintro p q hpq hq (hs | hs) c1 c2
    · exact Or.inl hs
    · exact Or.inr (by omega)
  · rintro p q (hs | hs) k1 k2 k3 k k4 k5
    · exact Or.inl (sep_at ha k1 k4)
    · omega
  · rintro p q (hs | hs) hq k1 k2 k3 k k4 k5
    · exact Or.inr k4
    · omega
  · rintro p q hpq hq ⟨k1, k2⟩
    by_cases c : a ≤ p
    · exact Or.inl ⟨c, k1⟩
    · by_cases c2 : a ≤ q
      · exact absurd (sep_at ha (by omega) c2) k2
      · exact Or.inr ⟨by omega, by omega, by omega, k2⟩
theorem L1.last {a b n i : Nat} {d d' : Array Tk} (h : L1 a n d) (ha : a = i * 20) (hb : n < a + 20) (han : a ≤ n) (hn : n ≤ d.size) (hp : PermIn a n d d') (ho : SortedIn lexT a n d') : L2 20 n d' := by
  refine ⟨rows_keep hp (by omega) _ _ h.rows ?_ ?_ ?_ ?_ (Nat.le_refl _), sorted_keep hp ho _ _ h.sort ?_⟩
  · rintro p q hpq hs ⟨k1, k2⟩
    exact not_sep ha (by omega) k1 k2 hs
  · rintro p q hpq hq hs c1 c2
    exact Or.inl hs
  · rintro p q hs k1 k2 k3 k k4 k5
    exact Or.inl (sep_at ha k1 k4)
  · rintro p q hs hq k1 k2 k3 k k4 k5
    exact Or.inr k4
  · rintro p q hpq hq k2
    by_cases c : a ≤ p
    · exact Or.inl ⟨c, hq⟩
    · by_cases c2 : a ≤ q
      · exact absurd (sep_at ha (by omega) c2) k2
      · exact Or.inr ⟨by omega, by omega, by omega, k2⟩
theorem L3.start {s n : Nat} {d : Array Tk} (h : L2 s n d) : L3 0 s n d := by
  refine ⟨fun p q hpq hq hr => h.rows p q hpq hq ?_, fun p q hpq hq hr => h.sort p q hpq hq ?_⟩
  · rcases hr with hs | ⟨_, hs⟩
    · exact sep_two hs
    · exact hs
  · rcases hr with ⟨h1, _⟩ | ⟨_, hs⟩
    · omega
    · exact hs
theorem two_border {a s i : Nat} (ha : a = i * (2 * s)) : a = (i * 2) * s ∧ a + s = (i * 2 + 1) * s := by
  constructor
  · rw [ha, Nat.mul_assoc]
  · rw [ha, Nat.add_mul, Nat.one_mul, Nat.mul_assoc]
/-- What a merge asks for. -/
theorem L3.pre {a m b s n i : Nat} {d : Array Tk} (h : L3 a s n d) (ha : a = i * (2 * s)) (hm : m = a + s) (hb : b ≤ a + 2 * s) (hbn : b ≤ n) (hmb : m ≤ b) : SortedIn lexT a m d ∧ SortedIn lexT m b d ∧ RowsLR a m b d := by
  obtain ⟨e1, e2⟩ := two_border ha
  refine ⟨fun p q h1 h2 h3 => ?_, fun p q h1 h2 h3 => ?_, fun p q h1 h2 h3 h4 => ?_⟩
  · exact h.sort p q h2 (by omega) (Or.inr ⟨h1, not_sep e1 (Nat.le_refl _) h1 (by omega)⟩)
  · exact h.sort p q h2 (by omega) (Or.inr ⟨by omega, not_sep e2 (show b ≤ a + s + s by omega) (by omega) h3⟩)
  · exact h.rows p q (by omega) (by omega) (Or.inr ⟨h1, sep_at e2 (by omega) (by omega)⟩)
theorem L3.step {a b s n i : Nat} {d d' : Array Tk} (h : L3 a s n d) (ha : a = i * (2 * s)) (hb : b = a + 2 * s) (hbn : b ≤ n) (hn : n ≤ d.size) (hp : PermIn a b d d') (ho : SortedIn lexT a b d') : L3 b s n d' := by
  obtain ⟨e1, e2⟩ := two_border ha
  refine ⟨rows_keep hp (by omega) _ _ h.rows ?_ ?_ ?_ ?_ hbn, sorted_keep hp ho _ _ h.sort ?_⟩
  · rintro p q hpq (hs | hs) ⟨k1, k2⟩
    · exact not_sep ha (by omega) k1 k2 hs
    · omega
  · rintro p q hpq hq (hs | ⟨hs, hs2⟩) c1 c2
    · exact Or.inl hs
    · exact Or.inr ⟨by omega, hs2⟩
  · rintro p q (hs | hs) k1 k2 k3 k k4 k5
    · exact Or.inl (sep_at ha k1 k4)
    · omega
  · rintro p q (hs | hs) hq k1 k2 k3 k k4 k5
    · refine Or.inl ⟨i + 1, ?_, ?_⟩ <;> rw [Nat.add_mul, Nat.one_mul] <;> omega
    · omega
  · rintro p q hpq hq (⟨k1, k2⟩ | ⟨k1, k2⟩)
    · by_cases c : a ≤ p
      · exact Or.inl ⟨c, k1⟩
      · by_cases c2 : a ≤ q
        · exact absurd (sep_at ha (by omega) c2) k2
        · exact Or.inr ⟨by omega, by omega, Or.inl ⟨by omega, k2⟩⟩
    · exact Or.inr ⟨by omega, by omega, Or.inr ⟨by omega, k2⟩⟩
theorem L3.last {a s n i : Nat} {d d' : Array Tk} (h : L3 a s n d) (ha : a = i * (2 * s)) (hb : n < a + 2 * s) (han : a ≤ n) (hn : n ≤ d.size) (hp : PermIn a n d d') (ho : SortedIn lexT a n d') : L2 (2 * s) n d' := by
  refine ⟨rows_keep hp (by omega) _ _ h.rows ?_ ?_ ?_ ?_ (Nat.le_refl _), sorted_keep hp ho _ _ h.sort ?_⟩
  · rintro p q hpq hs ⟨k1, k2⟩
    exact not_sep ha (by omega) k1 k2 hs
  · rintro p q hpq hq hs c1 c2
    exact Or.inl hs
  · rintro p q hs k1 k2 k3 k k4 k5
    exact Or.inl (sep_at ha k1 k4)
  · rintro p q hs hq k1 k2 k3 k k4 k5
    omega
  · rintro p q hpq hq k2
    by_cases c : a ≤ p
    · exact Or.inl ⟨c, hq⟩
    · by_cases c2 : a ≤ q
      · exact absurd (sep_at ha (by omega) c2) k2
      · exact Or.inr ⟨by omega, by omega, Or.inl ⟨by omega, k2⟩⟩
theorem L3.small {a s n i : Nat} {d : Array Tk} (h : L3 a s n d) (ha : a = i * (2 * s)) (hb : n ≤ a + s) (han : a ≤ n) : SortedIn lexT a n d := by
  obtain ⟨e1, e2⟩ := two_border ha
  exact fun p q h1 h2 h3 => h.sort p q h2 h3 (Or.inr ⟨h1, not_sep e1 hb h1 h3⟩)
theorem L2.all {s n : Nat} {d : Array Tk} (h : L2 s n d) (hs : n ≤ s) : SortedIn lexT 0 n d := fun p q h1 h2 h3 => h.sort p q h2 h3 (not_sep (i := 0) (a := 0) (by omega) (show n ≤ 0 + s by omega) h1 h3)
end Go.Proofs.Ybulkdpsg

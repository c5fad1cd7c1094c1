/- S5830C: symMerge's plain part. -/
import Derived.Test.YbulkdpsgC5
namespace Go.Proofs.Ybulkdpsg
open Go Go.Sort
set_option linter.unusedVariables false

theorem get_toList (d : Array Tk) (a b i : Nat) (hb : b ≤ d.size) (hi : a + i < b) : (d.extract a b).toList[i]? = some d[a + i]! := by
  rw [Array.getElem?_toList, Array.getElem?_extract]
  rw [if_pos (by omega), getElem!_pos d (a + i) (by omega), Array.getElem?_eq_getElem (by omega)]
theorem len_toList (d : Array Tk) (a b : Nat) (hb : b ≤ d.size) : (d.extract a b).toList.length = b - a := by simp; omega
theorem rot_perm {d d' : Array Tk} {s m e : Nat} (h : IsRot d d' s m e) (hsm : s ≤ m) (hme : m ≤ e) (he : e ≤ d.size) : PermIn s e d d' := by
  have he' : e ≤ d'.size := by rw [h.size]; exact he
  refine ⟨h.size, fun i hi => ?_, ?_⟩
  · by_cases hs : i < d.size
    · rw [h.get i hs, if_neg (by omega), if_neg (by omega)]
    · rw [getElem!_neg d' i (by rw [h.size]; exact hs), getElem!_neg d i hs]
  · have e1 : (d'.extract s e).toList = (d.extract m e).toList ++ (d.extract s m).toList := by
      apply List.ext_getElem?
      intro i
      by_cases hi : s + i < e
      · rw [get_toList d' s e i he' hi, h.get _ (by omega)]
        by_cases c : i < e - m
        · rw [if_pos (by omega), List.getElem?_append_left (by rw [len_toList _ _ _ he]; exact c), get_toList d m e i he (by omega)]
          congr 2; omega
        · rw [if_neg (by omega), if_pos (by omega), List.getElem?_append_right (by rw [len_toList _ _ _ he]; omega), len_toList _ _ _ he, get_toList d s m _ (by omega) (by omega)]
          congr 2; omega
      · rw [List.getElem?_eq_none (by rw [len_toList _ _ _ he']; omega), List.getElem?_eq_none (by rw [List.length_append, len_toList _ _ _ he, len_toList _ _ _ (by omega)]; omega)]
    have e2 : (d.extract s e).toList = (d.extract s m).toList ++ (d.extract m e).toList := by
      apply List.ext_getElem?
      intro i
      by_cases hi : s + i < e
      · rw [get_toList d s e i he hi]
        by_cases c : i < m - s
        · rw [List.getElem?_append_left (by rw [len_toList _ _ _ (by omega)]; exact c), get_toList d s m i (by omega) (by omega)]
        · rw [List.getElem?_append_right (by rw [len_toList _ _ _ (by omega)]; omega), len_toList _ _ _ (by omega), get_toList d m e _ he (by omega)]
          congr 2; omega
      · rw [List.getElem?_eq_none (by rw [len_toList _ _ _ he]; omega), List.getElem?_eq_none (by rw [List.length_append, len_toList _ _ _ he, len_toList _ _ _ (by omega)]; omega)]
    rw [e1, e2]
    exact List.perm_append_comm

theorem rot_same (d : Array Tk) (s m e : Nat) (h : s = m ∨ m = e) (he : e ≤ d.size) : IsRot d d s m e := by
  refine ⟨rfl, fun k hk => ?_⟩
  by_cases c1 : s ≤ k ∧ k < s + (e - m)
  · rw [if_pos c1]; congr 1; omega
  · by_cases c2 : s + (e - m) ≤ k ∧ k < e
    · rw [if_neg c1, if_pos c2]; congr 1; omega
    · rw [if_neg c1, if_neg c2]

/-- Rows of the left run lie below those of the right one. -/
def RowsLR (a m b : Nat) (d : Array Tk) : Prop := ∀ p q, a ≤ p → p < m → m ≤ q → q < b → (d[p]!).row < (d[q]!).row

theorem lex_le_trans {x y z : Tk} (h1 : lexT y x = false) (h2 : lexT z y = false) : lexT z x = false := swo_lex.ntrans _ _ _ h2 h1
theorem lex_lt_of {x y z : Tk} (h1 : lexT x y = true) (h2 : lexT z y = false) : lexT x z = true := by
  cases h : lexT x z with
  | true => rfl
  | false => have := swo_lex.ntrans _ _ _ h h2; rw [h1] at this; cases this
theorem lex_lt_of' {x y z : Tk} (h1 : lexT y z = true) (h2 : lexT y x = false) : lexT x z = true := by
  cases h : lexT x z with
  | true => rfl
  | false => have := swo_lex.ntrans _ _ _ h2 h; rw [h1] at this; cases this
theorem lex_asymm {x y : Tk} (h : lexT x y = true) : lexT y x = false := swo_lex.asymmA h

/-- The left run is one element: it goes to its place. -/
theorem merge_left {d d' : Array Tk} {a m b i : Nat} (hm : m = a + 1) (hmi : m ≤ i) (hib : i ≤ b) (hb : b ≤ d.size) (hR : SortedIn lexT m b d) (hlo : ∀ p, m ≤ p → p < i → lexT d[p]! d[a]! = true) (hhi : ∀ p, i ≤ p → p < b → lexT d[p]! d[a]! = false) (hr : IsRot d d' a m i) : PermIn a b d d' ∧ SortedIn lexT a b d' := by
  subst hm
  refine ⟨permIn_mono _ _ _ _ _ _ (Nat.le_refl _) hib hb (rot_perm hr (by omega) hmi (by omega)), fun p q hp hpq hq => ?_⟩
  rw [hr.get p (by omega), hr.get q (by omega)]
  by_cases c1 : q < i - 1
  · rw [if_pos (show a ≤ p ∧ _ by omega), if_pos (show a ≤ q ∧ _ by omega)]
    exact hR _ _ (by omega) (by omega) (by omega)
  · by_cases c2 : q = i - 1
    · subst c2
      rw [if_pos (show a ≤ p ∧ _ by omega), if_neg (by omega), if_pos (by omega)]
      have e : i - 1 - (i - (a + 1)) = a := by omega
      rw [e]
      exact lex_asymm (hlo _ (by omega) (by omega))
    · rw [if_neg (show ¬ (a ≤ q ∧ _) by omega), if_neg (show ¬ (a + _ ≤ q ∧ _) by omega)]
      by_cases c3 : p < i - 1
      · rw [if_pos (by omega)]
        exact hR _ _ (by omega) (by omega) (by omega)
      · by_cases c4 : p = i - 1
        · subst c4
          rw [if_neg (by omega), if_pos (by omega)]
          have e : i - 1 - (i - (a + 1)) = a := by omega
          rw [e]
          exact hhi q (by omega) hq
        · rw [if_neg (by omega), if_neg (by omega)]
          exact hR _ _ (by omega) hpq hq
/-- The right run is one element. -/
theorem merge_right {d d' : Array Tk} {a m b i : Nat} (hbm : b = m + 1) (hai : a ≤ i) (him : i ≤ m) (hb : b ≤ d.size) (hL : SortedIn lexT a m d) (hlo : ∀ p, a ≤ p → p < i → lexT d[m]! d[p]! = false) (hhi : ∀ p, i ≤ p → p < m → lexT d[m]! d[p]! = true) (hr : IsRot d d' i m b) : PermIn a b d d' ∧ SortedIn lexT a b d' := by
  subst hbm
  refine ⟨permIn_mono _ _ _ _ _ _ hai (Nat.le_refl _) hb (rot_perm hr him (by omega) hb), fun p q hp hpq hq => ?_⟩
  rw [hr.get p (by omega), hr.get q (by omega)]
  by_cases c1 : q < i
  · rw [if_neg (by omega), if_neg (by omega), if_neg (by omega), if_neg (by omega)]
    exact hL _ _ hp hpq (by omega)
  · by_cases c2 : q = i
    · subst c2
      rw [if_neg (show ¬ (q ≤ p ∧ _) by omega), if_neg (show ¬ (q + _ ≤ p ∧ _) by omega), if_pos (by omega)]
      have e : q - q + m = m := by omega
      rw [e]
      exact hlo p hp hpq
    · rw [if_neg (show ¬ (i ≤ q ∧ _) by omega), if_pos (show i + _ ≤ q ∧ _ by omega)]
      by_cases c3 : p < i
      · rw [if_neg (by omega), if_neg (by omega)]
        exact hL _ _ hp (by omega) (by omega)
      · by_cases c4 : p = i
        · subst c4
          rw [if_pos (by omega)]
          have e : p - p + m = m := by omega
          rw [e]
          exact lex_asymm (hhi _ (by omega) (by omega))
        · rw [if_neg (by omega), if_pos (by omega)]
          exact hL _ _ (by omega) (by omega) (by omega)
end Go.Proofs.Ybulkdpsg

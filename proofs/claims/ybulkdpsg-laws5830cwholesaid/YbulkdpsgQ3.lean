/- S5830C: lists of tasks, picked out of the row by a test. -/
import Derived.Test.YbulkdpsgQ2
namespace Go.Proofs.Ybulkdpsg
set_option linter.unusedVariables false
set_option linter.unusedSimpArgs false

def flt (n : Nat) (p : Nat → Bool) : List Nat := (List.range n).filter p
theorem flt_mem {n : Nat} {p : Nat → Bool} {i : Nat} : i ∈ flt n p ↔ i < n ∧ p i = true := by simp [flt]
theorem flt_nodup (n : Nat) (p : Nat → Bool) : (flt n p).Nodup := List.nodup_range.filter p
theorem flt_nil {n : Nat} {p : Nat → Bool} : flt n p = [] ↔ ∀ i, i < n → p i = false := by
  unfold flt
  rw [List.filter_eq_nil_iff]
  constructor
  · intro h i hi; have := h i (List.mem_range.2 hi); simpa using this
  · intro h i hi; rw [h i (List.mem_range.1 hi)]; simp
theorem flt_congr {n : Nat} {p q : Nat → Bool} (h : ∀ i, i < n → p i = q i) : flt n p = flt n q := by
  unfold flt
  exact List.filter_congr fun i hi => h i (List.mem_range.1 hi)
theorem flt_len (n : Nat) (p : Nat → Bool) : (flt n p).length = cnt n p := by
  unfold flt cnt; rw [List.countP_eq_length_filter]
theorem flt_le (n : Nat) (p : Nat → Bool) : (flt n p).length ≤ n := by rw [flt_len]; exact cnt_le n p
theorem flt_succ (n : Nat) (p : Nat → Bool) : flt (n + 1) p = flt n p ++ (if p n then [n] else []) := by
  simp [flt, List.range_succ, List.filter_append, List.filter_cons]
theorem flt_short {p : Nat → Bool} : ∀ {n a : Nat}, a ≤ n → (∀ i, i < n → p i = true → i < a) → flt n p = flt a p
  | 0, a, h, _ => by rw [show a = 0 by omega]
  | n + 1, a, h, hp => by
    by_cases e : a = n + 1
    · rw [e]
    · rw [flt_succ, flt_short (n := n) (a := a) (by omega) (fun i hi h => hp i (by omega) h)]
      have : p n = false := by
        cases hh : p n with
        | false => rfl
        | true => have := hp n (by omega) hh; omega
      simp [this]
/-- One more comes, behind all that there are. -/
theorem flt_add {n a : Nat} {p q : Nat → Bool} (ha : a < n) (hp : ∀ i, i < n → p i = true → i < a) (hq : q a = true) (ho : ∀ i, i < n → i ≠ a → q i = p i) : flt n q = flt n p ++ [a] := by
  rw [flt_short (p := p) (a := a) (by omega) hp, flt_short (p := q) (n := n) (a := a + 1) (by omega) (fun i hi h => by
    by_cases e : i = a
    · omega
    · have := hp i hi (by rw [← ho i hi e]; exact h); omega), flt_succ, hq, if_pos rfl, flt_congr (fun i hi => ho i (by omega) (by omega))]
theorem flt_del {n t : Nat} {p q : Nat → Bool} (hq : q t = false) (ho : ∀ i, i < n → i ≠ t → q i = p i) : flt n q = (flt n p).filter (fun i => i != t) := by
  unfold flt
  rw [List.filter_filter]
  refine List.filter_congr fun i hi => ?_
  by_cases e : i = t
  · subst e; simp [hq]
  · simp [e, ho i (List.mem_range.1 hi) e]
theorem flt_head {n t : Nat} {p : Nat → Bool} {r : List Nat} (h : flt n p = t :: r) : t < n ∧ p t = true ∧ ∀ i, i < n → p i = true → t ≤ i := by
  have hm : t ∈ flt n p := by rw [h]; simp
  refine ⟨(flt_mem.1 hm).1, (flt_mem.1 hm).2, fun i hi hp => ?_⟩
  have hs : (flt n p).Pairwise (· < ·) := List.pairwise_lt_range.filter p
  rw [h, List.pairwise_cons] at hs
  have : i ∈ flt n p := flt_mem.2 ⟨hi, hp⟩
  rw [h] at this
  rcases List.mem_cons.1 this with rfl | hr
  · exact Nat.le_refl _
  · exact Nat.le_of_lt (hs.1 i hr)
theorem flt_tail {n t : Nat} {p q : Nat → Bool} {r : List Nat} (h : flt n p = t :: r) (hq : q t = false) (ho : ∀ i, i < n → i ≠ t → q i = p i) : flt n q = r := by
  rw [flt_del hq ho, h]
  have hn := flt_nodup n p
  rw [h, List.nodup_cons] at hn
  simp only [List.filter_cons, bne_self_eq_false, Bool.false_eq_true, ↓reduceIte]
  rw [List.filter_eq_self]
  intro x hx
  simp
  intro e
  subst e
  exact hn.1 hx
theorem flt_perm {n t : Nat} {p q : Nat → Bool} (ht : t < n) (hp : p t = false) (hq : q t = true) (ho : ∀ i, i < n → i ≠ t → q i = p i) : (flt n q).Perm (t :: flt n p) := by
  have h1 : (flt n q).Perm (t :: (flt n q).erase t) := List.perm_cons_erase (flt_mem.2 ⟨ht, hq⟩)
  have h2 : (flt n q).erase t = flt n p := by
    rw [(flt_nodup n q).erase_eq_filter t, ← flt_del hp (fun i hi e => (ho i hi e).symm)]
  rw [h2] at h1
  exact h1
end Go.Proofs.Ybulkdpsg

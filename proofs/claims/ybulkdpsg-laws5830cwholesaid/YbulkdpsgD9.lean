/- S5830C: container/heap: Pop, Push, whole. -/
import Derived.Test.YbulkdpsgD8
namespace Go.Proofs.Ybulkdpsg
open Go Go.RowKit Go.Sort Go.Proofs Go.Lib
set_option linter.unusedVariables false
set_option linter.unusedSimpArgs false

def flE (d : Array En) : List Value := (flatK encE 2 d).toList
theorem flE_len (d : Array En) : (flE d).length = d.size * 2 := by simp [flE]
theorem flE_get (d : Array En) (j : Nat) (h : j < d.size * 2) : (flE d)[j]? = some ((encE d[j / 2]!)[j % 2]!) := by
  have hj : j < (flatK encE 2 d).size := by rw [size_flatK]; exact h
  have := get_flatK encE 2 d j h
  unfold flE
  rw [Array.getElem?_toList, Array.getElem?_eq_getElem hj, ← this]
  rw [getElem!_pos (flatK encE 2 d) j hj]
theorem own_holds {w : World} {base g n cap : Nat} {d : Array En} (h : w.ownsRow base 142 2 (.slice (some ⟨g, 0, none⟩) n cap) n (flE d)) : HoldsK encE 2 w g 0 d ∧ g < w.heap.size ∧ d.size = n ∧ n ≤ cap := by
  have hl := h.1
  rw [flE_len] at hl
  have hn : d.size = n := by omega
  rcases h.2 with ⟨h1, _⟩ | ⟨g', cap', cur, hv, hb, hg, hc, hm, hs, ht⟩
  · cases h1
  · simp only [Value.slice.injEq, Option.some.injEq, Addr.mk.injEq, and_true, true_and] at hv
    obtain ⟨rfl, rfl⟩ := hv
    refine ⟨fun j hj => ?_, (Array.getElem?_eq_some_iff.1 hg).1, hn, hc⟩
    rw [size_flatK] at hj
    rw [get_flatK encE 2 d j hj, Nat.zero_add]
    have k := h.cells (g := g) rfl j _ (flE_get d j hj)
    have hadd : (⟨g, 0, none⟩ : Addr).add j = ⟨g, j, none⟩ := by unfold Addr.add; split <;> simp_all
    rw [hadd] at k
    exact ⟨k, by simp [World.frozen?, hg]⟩
theorem own_of {w w' : World} {base g n cap : Nat} {xs : List Value} {d' : Array En} (h : w.ownsRow base 142 2 (.slice (some ⟨g, 0, none⟩) n cap) n xs) (hH : HoldsK encE 2 w' g 0 d') (hsh : Shape w w' g) (hn : d'.size = n) : w'.ownsRow base 142 2 (.slice (some ⟨g, 0, none⟩) n cap) n (flE d') := by
  refine ⟨by rw [flE_len, hn], ?_⟩
  rcases h.2 with ⟨h1, _⟩ | ⟨g', cap', cur, hv, hb, hg, hc, hm, hs, ht⟩
  · cases h1
  · simp only [Value.slice.injEq, Option.some.injEq, Addr.mk.injEq, and_true, true_and] at hv
    obtain ⟨rfl, rfl⟩ := hv
    obtain ⟨cur', hg', hs'⟩ := hsh cur 142 (0, 0) hg
    refine Or.inr ⟨g, cap, cur', rfl, hb, hg', hc, hm, hs'.trans hs, ?_⟩
    refine List.ext_getElem? fun j => ?_
    by_cases hj : j < n * 2
    · rw [List.getElem?_take_of_lt hj, flE_get d' j (by rw [hn]; exact hj)]
      have k := (hH j (by rw [size_flatK, hn]; exact hj)).1
      rw [get_flatK encE 2 d' j (by rw [hn]; exact hj), Nat.zero_add] at k
      simpa [World.cell?, hg'] using k
    · rw [List.getElem?_eq_none (by simp; omega), List.getElem?_eq_none (by rw [flE_len, hn]; omega)]
theorem flE_push (d : Array En) (x : En) : flE d ++ encE x = flE (d.push x) := by
  refine List.ext_getElem? fun j => ?_
  by_cases h1 : j < d.size * 2
  · rw [List.getElem?_append_left (by rw [flE_len]; exact h1), flE_get d j h1, flE_get _ j (by simp; omega)]
    have e2 : (d.push x)[j / 2]! = d[j / 2]! := by simp [Array.getElem!_eq_getD, Array.getD_eq_getD_getElem?, Array.getElem?_push, show ¬ j / 2 = d.size by omega]
    rw [e2]
  · rw [List.getElem?_append_right (by rw [flE_len]; omega), flE_len]
    by_cases h2 : j < d.size * 2 + 2
    · rw [flE_get _ j (by simp; omega)]
      have e1 : j / 2 = d.size := by omega
      rw [e1]
      have e2 : (d.push x)[d.size]! = x := by simp [Array.getElem!_eq_getD, Array.getD_eq_getD_getElem?]
      rw [e2]
      rcases (show j - d.size * 2 = 0 ∧ j % 2 = 0 ∨ j - d.size * 2 = 1 ∧ j % 2 = 1 by omega) with ⟨a, b⟩ | ⟨a, b⟩ <;> rw [a, b] <;> rfl
    · rw [List.getElem?_eq_none (by simp [encE]; omega), List.getElem?_eq_none (by rw [flE_len]; simp; omega)]
theorem own_pop {w : World} {base g m cap : Nat} {d : Array En} (h : w.ownsRow base 142 2 (.slice (some ⟨g, 0, none⟩) (m + 1) cap) (m + 1) (flE d)) (hd : d.size = m + 1) : w.ownsRow base 142 2 (.slice (some ⟨g, 0, none⟩) m cap) m (flE d.pop) := by
  refine ⟨by rw [flE_len]; simp [hd], ?_⟩
  rcases h.2 with ⟨h1, _⟩ | ⟨g', cap', cur, hv, hb, hg, hc, hm, hs, ht⟩
  · cases h1
  · simp only [Value.slice.injEq, Option.some.injEq, Addr.mk.injEq, and_true, true_and] at hv
    obtain ⟨rfl, rfl⟩ := hv
    refine Or.inr ⟨g, cap, cur, rfl, hb, hg, by omega, hm, hs, ?_⟩
    refine List.ext_getElem? fun j => ?_
    by_cases hj : j < m * 2
    · rw [List.getElem?_take_of_lt hj, flE_get d.pop j (by simp [hd]; omega)]
      have k : (cur.toList.take ((m + 1) * 2))[j]? = (flE d)[j]? := by rw [ht]
      rw [List.getElem?_take_of_lt (by omega), flE_get d j (by rw [hd]; omega)] at k
      have e2 : d.pop[j / 2]! = d[j / 2]! := by rw [getElem!_pos d.pop (j / 2) (by simp; omega), getElem!_pos d (j / 2) (by omega), Array.getElem_pop]
      rw [k, e2]
    · rw [List.getElem?_eq_none (by simp; omega), List.getElem?_eq_none (by rw [flE_len]; simp [hd]; omega)]
end Go.Proofs.Ybulkdpsg

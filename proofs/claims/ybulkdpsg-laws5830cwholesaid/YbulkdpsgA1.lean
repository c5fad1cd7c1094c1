/- S5830C: queues: slices of integers that lose their front and grow at their end. -/
import Derived.Test.YbulkdpsgW7
import Derived.Deep.AppendSrc
import Derived.Deep.AppendLies
namespace Go.Proofs.Ybulkdpsg
open Go Go.RowKit Go.Proofs Go.Lib
set_option linter.unusedVariables false
set_option linter.unusedSimpArgs false

def OwnsQ (w : World) (base : Nat) (v : Value) (l : List Nat) : Prop :=
  (v = .slice none 0 0 ∧ l = []) ∨ ∃ g off cap cur, v = .slice (some ⟨g, off, none⟩) l.length cap ∧ base ≤ g ∧ w.heap[g]? = some (.cells cur 3 (0, 0)) ∧ l.length ≤ cap ∧ cap ≤ maxLen ∧ off + cap ≤ cur.size ∧ ∀ i (hi : i < l.length), cur[off + i]? = some (.int .i64 (l[i] : Int))
theorem OwnsQ.lt {w : World} {base : Nat} {v : Value} {l : List Nat} (h : OwnsQ w base v l) : ∀ k, v.ownBlock = some k → k < w.heap.size := fun k hk => by
  rcases h with ⟨rfl, _⟩ | ⟨g, off, cap, cur, rfl, _, hg, _⟩
  · simp [Value.ownBlock] at hk
  · simp [Value.ownBlock] at hk; subst hk; exact (Array.getElem?_eq_some_iff.1 hg).1
theorem OwnsQ.blk {w w' : World} {base : Nat} {v : Value} {l : List Nat} (h : OwnsQ w base v l) (hb : ∀ k, v.ownBlock = some k → w'.heap[k]? = w.heap[k]?) : OwnsQ w' base v l := by
  rcases h with h1 | ⟨g, off, cap, cur, rfl, h1, hg, h2⟩
  · exact Or.inl h1
  · exact Or.inr ⟨g, off, cap, cur, rfl, h1, (hb g rfl).trans hg, h2⟩
theorem OwnsQ.fr {S : List Nat} {w w' : World} {base : Nat} {v : Value} {l : List Nat} (h : OwnsQ w base v l) (hf : Fr S w w') (hn : ∀ k, v.ownBlock = some k → k ∉ S) : OwnsQ w' base v l := h.blk (fun k hk => hf.block k (h.lt k hk) (hn k hk))
theorem OwnsQ.frT {own : Nat → Nat} {T : Nat → Prop} {w w' : World} {base : Nat} {v : Value} {l : List Nat} (h : OwnsQ w base v l) (hf : FrT own T w w') (hn : ∀ k, v.ownBlock = some k → ¬ T (own k)) : OwnsQ w' base v l := h.blk (fun k hk => hf.block k (h.lt k hk) (hn k hk))
/-- One element more. -/
theorem OwnsQ.app {w : World} {base : Nat} {v : Value} {l : List Nat} (h : OwnsQ w base v l) (hbase : base ≤ w.heap.size) (hl : l.length ≤ 5000) (x a : Nat) (hx : w.cell? ⟨a, 0, none⟩ = some (.int .i64 (x : Int))) (ty : TypeId) :
    ∃ g off cap w', (Builtin.append_ #[48, 48] ty #[v, .slice (some ⟨a, 0, none⟩) 1 1]).run Yba.prog w = .ok (.slice (some ⟨g, off, none⟩) (l.length + 1) cap) w' ∧ OwnsQ w' base (.slice (some ⟨g, off, none⟩) (l.length + 1) cap) (l ++ [x]) ∧ w.grownBy w' v.ownBlock ∧ (v.ownBlock = some g ∨ g = w.heap.size) ∧ g < w'.heap.size := by
  obtain ⟨i0, hi, hz0, hz1, hz2⟩ := info_parts (show (Yba.prog.info? 3).map (fun i => (i.zero, i.size, i.bytes)) = some (some (.int .i64 0), 1, 8) by kernel_rfl)
  have hsrc : Src Yba.prog i0.size 48 (.slice (some ⟨a, 0, none⟩) 1 1) 1 [.int .i64 (x : Int)] w := Src.ofSlice w Yba.underlying48 ⟨a, 0, none⟩ 1 1 [.int .i64 (x : Int)] (by rw [hz1]; rfl) (fun j u hj => by
    match j, hj with
    | 0, hj => simp at hj; subst hj; simpa [Addr.add] using hx) (by intro u hu; simp at hu; subst hu; rfl)
  have grows : ∀ (sCap : Nat) (ao : Option Addr) (hv : v = .slice ao l.length sCap) (hfull : sCap < l.length + 1) (hold : (Builtin.firstCells 1 l.length (.slice ao l.length sCap)).run Yba.prog w.drew = .ok (l.map fun (n : Nat) => Value.int .i64 (n : Int)).toArray w.drew), ∃ g off cap w', (Builtin.append_ #[48, 48] ty #[v, .slice (some ⟨a, 0, none⟩) 1 1]).run Yba.prog w = .ok (.slice (some ⟨g, off, none⟩) (l.length + 1) cap) w' ∧ OwnsQ w' base (.slice (some ⟨g, off, none⟩) (l.length + 1) cap) (l ++ [x]) ∧ w.grownBy w' v.ownBlock ∧ (v.ownBlock = some g ∨ g = w.heap.size) ∧ g < w'.heap.size := by
    intro sCap ao hv hfull hold
    have hr := run_append_grow_src (P := Yba.prog) w 48 48 ty 3 i0 (.int .i64 0) Yba.underlying48 hi hz0 ao l.length sCap (l.map fun (n : Nat) => Value.int .i64 (n : Int)) (by rw [hz1]; exact hold) _ 1 _ hsrc hfull (by omega) (by
      rw [hz2]
      exact growslice_fits hfull (by omega))
    rw [hv]
    refine ⟨w.heap.size, 0, grownCap w (l.length + 1) sCap 3, _, hr, ?_, ⟨rfl, rfl, rfl, by simp, fun k hk _ => Deep.blk_alloc_lt w.drew _ k hk⟩, Or.inr rfl, by simp⟩
    have hge := grownCap_ge w (l.length + 1) sCap 3
    refine Or.inr ⟨w.heap.size, 0, grownCap w (l.length + 1) sCap 3, _, by simp, hbase, Deep.blk_alloc_new w.drew _, by simpa using hge, grownCap_le_maxLen w _ _ _ (by simp [maxLen]; omega), ?_, fun i hi => ?_⟩
    · rw [Array.size_append, size_zeroCells]
      simp [Value.cells]
      omega
    · rw [Nat.zero_add, Array.getElem?_append_left (by simp; simpa using hi)]
      simp only [List.getElem?_toArray]
      have hi' : i < l.length + 1 := by simpa using hi
      by_cases he : i < l.length
      · rw [List.getElem?_append_left (by simpa using he), List.getElem?_map, List.getElem?_eq_getElem he]
        simp [List.getElem_append_left he]
      · have : i = l.length := by omega
        subst this
        rw [List.getElem?_append_right (by simp)]
        simp
  rcases h with ⟨hv, hl0⟩ | ⟨g, off, cap, cur, hv, hb, hg, hc, hm, hs, hcur⟩
  · have e0 : l.length = 0 := by rw [hl0]; rfl
    refine grows 0 none (by rw [hv, e0]) (by omega) ?_
    rw [hl0]
    exact run_firstCells_none w.drew 1 0 0 0
  · by_cases hroom : l.length + 1 ≤ cap
    · have hlt : off + l.length < cur.size := by omega
      have hr := run_append_room_src (P := Yba.prog) w 48 48 ty 3 i0 Yba.underlying48 hi g off l.length cap _ 1 _ hsrc hroom (fun j hj => by
        have : j = 0 := by simp at hj; omega
        subst this
        rw [hz1]
        simp [World.cell?, hg, show off + l.length < cur.size from hlt]) (fun j hj => by simp [World.frozen?, hg])
      rw [hz1] at hr
      have hset : w.setCells g (off + l.length * 1) [.int .i64 (x : Int)] = w.setCell ⟨g, off + l.length, none⟩ (.int .i64 (x : Int)) := by rw [Nat.mul_one]; rfl
      rw [hset] at hr
      rw [hv]
      refine ⟨g, off, cap, _, hr, ?_, ⟨rfl, rfl, rfl, by simp [World.setCell], fun k hk hne => Deep.blk_setCell_other w _ _ k (fun e => hne (by simp [Value.ownBlock]; exact e))⟩, Or.inl rfl, by simp [World.setCell]; exact (Array.getElem?_eq_some_iff.1 hg).1⟩
      refine Or.inr ⟨g, off, cap, cur.setIfInBounds (off + l.length) (.int .i64 (x : Int)), by simp, hb, by simp [World.setCell, Array.getElem?_modify, hg], by simpa using hroom, hm, by simpa using hs, fun i hi => ?_⟩
      have hi' : i < l.length + 1 := by simpa using hi
      rw [Array.getElem?_setIfInBounds]
      by_cases he : i < l.length
      · rw [if_neg (by omega), hcur i he]
        simp [List.getElem_append_left he]
      · have : i = l.length := by omega
        subst this
        rw [if_pos rfl]
        simp [hlt]
    · refine grows cap (some ⟨g, off, none⟩) hv (by omega) ?_
      refine run_firstCells_some w.drew 1 l.length ⟨g, off, none⟩ l.length cap _ (by simp) (fun j u hj => ?_)
      have hjl : j < l.length := by
        have := (List.getElem?_eq_some_iff.1 hj).1
        simpa using this
      have hadd : (⟨g, off, none⟩ : Addr).add j = ⟨g, off + j, none⟩ := by unfold Addr.add; split <;> simp_all
      rw [hadd]
      rw [List.getElem?_map, List.getElem?_eq_getElem hjl] at hj
      simp at hj
      subst hj
      show w.cell? _ = _
      simp [World.cell?, hg, hcur j hjl]
/-- The front taken off. -/
theorem OwnsQ.tail {w : World} {base g off cap x : Nat} {l : List Nat} (h : OwnsQ w base (.slice (some ⟨g, off, none⟩) (l.length + 1) cap) (x :: l)) : OwnsQ w base (.slice (some ⟨g, off + 1, none⟩) l.length (cap - 1)) l ∧ w.cell? ⟨g, off, none⟩ = some (.int .i64 (x : Int)) ∧ l.length + 1 ≤ cap := by
  rcases h with ⟨h1, _⟩ | ⟨g', off', cap', cur, hv, hb, hg, hc, hm, hs, hcur⟩
  · cases h1
  · simp only [Value.slice.injEq, Option.some.injEq, Addr.mk.injEq, and_true, List.length_cons, true_and] at hv
    obtain ⟨⟨rfl, rfl⟩, rfl⟩ := hv
    simp at hc
    refine ⟨Or.inr ⟨g, off + 1, cap - 1, cur, rfl, hb, hg, by omega, by omega, by omega, fun i hi => ?_⟩, ?_, hc⟩
    · have := hcur (i + 1) (by simp; omega)
      rw [show off + 1 + i = off + (i + 1) by omega, this]; simp
    · have := hcur 0 (by simp)
      simpa [World.cell?, hg] using this
theorem OwnsQ.cell {w : World} {base : Nat} {v : Value} {l : List Nat} (h : OwnsQ w base v l) (hl : l ≠ []) : ∃ g off cap, v = .slice (some ⟨g, off, none⟩) l.length cap ∧ ∀ i (hi : i < l.length), w.cell? ⟨g, off + i, none⟩ = some (.int .i64 (l[i] : Int)) := by
  rcases h with ⟨_, h1⟩ | ⟨g, off, cap, cur, hv, hb, hg, hc, hm, hs, hcur⟩
  · exact absurd h1 hl
  · exact ⟨g, off, cap, hv, fun i hi => by simp [World.cell?, hg, hcur i hi]⟩
end Go.Proofs.Ybulkdpsg

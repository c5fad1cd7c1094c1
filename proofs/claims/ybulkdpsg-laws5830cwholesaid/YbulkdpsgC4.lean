/- S5830C: facts for the sort's walks; slices.insertionSortCmpFunc. -/
import Derived.Test.YbulkdpsgC3
import Derived.Sort.Lot0
namespace Go.Proofs.Ybulkdpsg
open Go Go.RowKit Go.Sort Go.Proofs Go.Lib
set_option linter.unusedVariables false

/-- By arrival, then by row. -/
def lexT (x y : Tk) : Bool := decide (x.arr < y.arr ∨ (x.arr = y.arr ∧ x.row < y.row))
theorem swo_lex : SWO lexT where
  irrefl := fun x => by simp [lexT]
  trans := fun x y z h1 h2 => by simp [lexT] at *; omega
  ntrans := fun x y z h1 h2 => by simp [lexT] at *; omega
theorem cf_lex {x y : Tk} (h : y.row < x.row) : decide (cfT x y < 0) = lexT x y := by
  unfold cfT cmpI lexT
  by_cases h1 : x.arr < y.arr
  · rw [if_pos h1]; simp [h1]
  · rw [if_neg h1]
    by_cases h2 : y.arr < x.arr
    · rw [if_pos h2]; simp; omega
    · rw [if_neg h2]; simp; omega

/-- What a walk needs where two elements change places. -/
structure SwapFacts (K : Nat) (wr : World) (blk : Nat) (dk : Array Tk) (i j : Nat) (ci cj : List Value) : Prop where
  li : Sem.run Yba.prog (loadCellsFrom ⟨blk, i * K, none⟩ 0 K #[]) wr.drew = .ok ci.toArray wr.drew
  lj : Sem.run Yba.prog (loadCellsFrom ⟨blk, j * K, none⟩ 0 K #[]) wr.drew = .ok cj.toArray wr.drew
  s1 : Sem.run Yba.prog (storeCells ⟨blk, i * K, none⟩ cj 0) wr.drew = .ok () (wr.drew.setCells blk (i * K) cj)
  s2 : Sem.run Yba.prog (storeCells ⟨blk, j * K, none⟩ ci 0) (wr.drew.setCells blk (i * K) cj) = .ok () ((wr.drew.setCells blk (i * K) cj).setCells blk (j * K) ci)
  hi : ci.length = K
  hj : cj.length = K
  tw : Tw wr ((wr.drew.setCells blk (i * K) cj).setCells blk (j * K) ci) blk (swp dk i j)
theorem swap_facts (K : Nat) (hK : K = 5) (wr : World) (blk : Nat) (dk : Array Tk) (i j : Nat) (hH : HoldsK encT 5 wr blk 0 dk) (hblk : blk < wr.heap.size) (hi : i < dk.size) (hj : j < dk.size) : ∃ ci cj, SwapFacts K wr blk dk i j ci cj := by
  subst hK
  have bnd : ∀ x, x < dk.size → x * 5 + 5 ≤ dk.size * 5 := fun x hx => by omega
  have hHd : HoldsK encT 5 wr.drew blk 0 dk := hH
  have li := run_loadCellsFrom_list Yba.prog _ _ _ 5 (encT_len _) (HoldsK.cells hHd encT_len hi)
  have lj := run_loadCellsFrom_list Yba.prog _ _ _ 5 (encT_len _) (HoldsK.cells hHd encT_len hj)
  have s1 := stores_of_holds Yba.prog hHd (i * 5) (encT dk[j]!) (by rw [encT_len, size_flatK]; exact bnd _ hi) (encT_one _)
  have s2 := stores_of_holds Yba.prog (holds_setCells_c hHd (i * 5) (encT dk[j]!) (by rw [encT_len, size_flatK]; exact bnd _ hi)) (j * 5) (encT dk[i]!) (by rw [encT_len, size_setMany, size_flatK]; exact bnd _ hj) (encT_one _)
  simp only [Nat.zero_add] at li lj s1 s2
  refine ⟨encT dk[i]!, encT dk[j]!, li, lj, s1, s2, rfl, rfl, ?_⟩
  have e : (wr.drew.setCells blk (i * 5) (encT dk[j]!)).setCells blk (j * 5) (encT dk[i]!) = tw wr blk 1 (swp dk i j) #[] := by
    have h0 : wr = sortWorldK encT 5 wr blk 0 0 dk #[] := by unfold sortWorldK; rw [grow_empty]; exact (putRowK_self encT 5 wr blk 0 dk hH).symm
    have := sortWorldK_swp_c encT 5 wr blk 0 encT_len 0 dk #[] hblk i j hi hj
    rw [← h0] at this
    simpa only [Nat.zero_add] using this
  rw [e]
  exact tw_Tw wr blk 1 dk _ #[] hH hblk (size_swp _ _ _)

/-- What a walk needs where two elements are compared. -/
structure CmpFacts (K : Nat) (wr : World) (blk : Nat) (x y : Tk) (i j : Nat) (cx cy : Array Value) : Prop where
  li : ∀ n os, Sem.run Yba.prog (loadCellsFrom ⟨blk, i * K, none⟩ 0 K #[]) (grow (wr.drewN n) os) = .ok cx (grow (wr.drewN n) os)
  lj : ∀ n os, Sem.run Yba.prog (loadCellsFrom ⟨blk, j * K, none⟩ 0 K #[]) (grow (wr.drewN n) os) = .ok cy (grow (wr.drewN n) os)
  hc : ∀ n os, Calls Yba.prog 33 #[.agg cx, .agg cy] (grow (wr.drewN n) os) fun e w' => e = .returned (.int .i64 (cfT x y)) ∧ ∃ q os', w' = grow ((grow (wr.drewN n) os).drewN q) os'
theorem holds_grown {wr : World} {blk : Nat} {dk : Array Tk} (hH : HoldsK encT 5 wr blk 0 dk) (hblk : blk < wr.heap.size) (n : Nat) (os : Array Obj) : HoldsK encT 5 (grow (wr.drewN n) os) blk 0 dk :=
  holdsK_grow encT 5 (wr.drewN n) os blk 0 dk hblk hH
theorem tw_grown {wr : World} {blk : Nat} {dk : Array Tk} (hH : HoldsK encT 5 wr blk 0 dk) (hblk : blk < wr.heap.size) (n : Nat) (os : Array Obj) : Tw wr (grow (wr.drewN n) os) blk dk :=
  ⟨holds_grown hH hblk n os, rfl, rfl, rfl, by simp [grow], fun k hk _ => by show ((wr.heap ++ os) : Array Obj)[k]? = _; rw [Array.getElem?_append_left hk]⟩
theorem cmp_facts (K : Nat) (hK : K = 5) (wr : World) (blk : Nat) (dk : Array Tk) (i j : Nat) (hH : HoldsK encT 5 wr blk 0 dk) (hblk : blk < wr.heap.size) (hi : i < dk.size) (hj : j < dk.size) : ∃ cx cy, CmpFacts K wr blk dk[i]! dk[j]! i j cx cy := by
  subst hK
  refine ⟨(encT dk[i]!).toArray, (encT dk[j]!).toArray, fun n os => ?_, fun n os => ?_, fun n os => ?_⟩
  · have := run_loadCellsFrom_list Yba.prog _ _ _ 5 (encT_len _) (HoldsK.cells (holds_grown hH hblk n os) encT_len hi)
    simpa only [Nat.zero_add] using this
  · have := run_loadCellsFrom_list Yba.prog _ _ _ 5 (encT_len _) (HoldsK.cells (holds_grown hH hblk n os) encT_len hj)
    simpa only [Nat.zero_add] using this
  · exact (cmpT dk[i]! dk[j]! _).mono fun e w' ⟨he, os', hw⟩ => ⟨he, 0, os', hw⟩
end Go.Proofs.Ybulkdpsg

/- S5830C: append onto a queue, for the walks. -/
import Derived.Test.YbulkdpsgA1
import Derived.Deep.RegionLaw
namespace Go.Proofs.Ybulkdpsg
open Go Go.RowKit Go.Proofs Go.Lib
set_option linter.unusedVariables false
set_option linter.unusedSimpArgs false

theorem wp_append_q (w : World) {o : Oper} {a : Act} {K : Act → World → Prop} {Q : Exit → Act → World → Prop} (s x : Operand)
    (ho : o.op = .call { callee := .builtin .append, args := #[s, x], argTypes := #[48, 48] })
    (base : Nat) (v : Value) (l : List Nat) (hs : a.eval s = v) (hown : OwnsQ w base v l) (hbase : base ≤ w.heap.size) (hl : l.length ≤ 5000) (k b : Nat) (hx : a.eval x = .slice (some ⟨b, 0, none⟩) 1 1) (hc : w.cell? ⟨b, 0, none⟩ = some (.int .i64 (k : Int))) (H : Nat) (hH : w.heap.size = H)
    (h : ∀ g off cap w', OwnsQ w' base (.slice (some ⟨g, off, none⟩) (l.length + 1) cap) (l ++ [k]) → w.grownBy w' v.ownBlock → (v.ownBlock = some g ∨ g = H) → g < w'.heap.size → K (a.put o.dst (.slice (some ⟨g, off, none⟩) (l.length + 1) cap)) w') : o.wp Yba.prog a w K Q := by
  obtain ⟨g, off, cap, w', hr, h2, h3, h4, h5⟩ := hown.app hbase hl k b hc o.type
  unfold Oper.wp execOp
  simp only [ho, resolve, invoke, builtin, Sem.run_bind, Sem.run_pure, Result.andThen_ok, List.map_toArray, List.map_cons, List.map_nil, hs, hx, hr]
  exact h g off cap w' h2 h3 (by rw [← hH]; exact h4) h5
theorem wpList_append_q (w : World) {ops : Array Oper} {rest : List Oper} {o : Oper} {a : Act} {Q : Exit → Act → World → Prop} (hgd : o.guard = none) (s x : Operand)
    (ho : o.op = .call { callee := .builtin .append, args := #[s, x], argTypes := #[48, 48] })
    (base : Nat) (v : Value) (l : List Nat) (hs : a.eval s = v) (hown : OwnsQ w base v l) (hbase : base ≤ w.heap.size) (hl : l.length ≤ 5000) (k b : Nat) (hx : a.eval x = .slice (some ⟨b, 0, none⟩) 1 1) (hc : w.cell? ⟨b, 0, none⟩ = some (.int .i64 (k : Int))) (H : Nat) (hH : w.heap.size = H)
    (h : ∀ g off cap w', OwnsQ w' base (.slice (some ⟨g, off, none⟩) (l.length + 1) cap) (l ++ [k]) → w.grownBy w' v.ownBlock → (v.ownBlock = some g ∨ g = H) → g < w'.heap.size → wpList Yba.prog ops Q rest (a.put o.dst (.slice (some ⟨g, off, none⟩) (l.length + 1) cap)) w') : wpList Yba.prog ops Q (o :: rest) a w :=
  wpList_plain hgd fun _ hK => wp_append_q w s x ho base v l hs hown hbase hl k b hx hc H hH fun g off cap w' h2 h3 h4 h5 => hK _ _ (h g off cap w' h2 h3 h4 h5)
theorem step_append_q (w : World) {ops : Array Oper} {o : Oper} {a : Act} {K : Act → World → Prop} {Q : Exit → Act → World → Prop} {E : Prop} (hgd : o.guard = none) (s x : Operand)
    (ho : o.op = .call { callee := .builtin .append, args := #[s, x], argTypes := #[48, 48] })
    (base : Nat) (v : Value) (l : List Nat) (hs : a.eval s = v) (hown : OwnsQ w base v l) (hbase : base ≤ w.heap.size) (hl : l.length ≤ 5000) (k b : Nat) (hx : a.eval x = .slice (some ⟨b, 0, none⟩) 1 1) (hc : w.cell? ⟨b, 0, none⟩ = some (.int .i64 (k : Int))) (H : Nat) (hH : w.heap.size = H)
    (h : ∀ g off cap w', OwnsQ w' base (.slice (some ⟨g, off, none⟩) (l.length + 1) cap) (l ++ [k]) → w.grownBy w' v.ownBlock → (v.ownBlock = some g ∨ g = H) → g < w'.heap.size → K (a.put o.dst (.slice (some ⟨g, off, none⟩) (l.length + 1) cap)) w') :
    if Region.wanted o (yielded ops a.tmps) = true then Oper.wp Yba.prog o a w K Q else E := by
  have hw : Region.wanted o (yielded ops a.tmps) = true := by simp [Region.wanted, hgd]
  rw [if_pos hw]
  exact wp_append_q w s x ho base v l hs hown hbase hl k b hx hc H hH h
end Go.Proofs.Ybulkdpsg

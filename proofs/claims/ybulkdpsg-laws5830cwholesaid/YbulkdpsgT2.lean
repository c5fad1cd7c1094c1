/- S5830C: going over a map, at the operations. -/
import Derived.Test.YbulkdpsgT1
namespace Go.Proofs.Ybulkdpsg
open Go Go.RowKit Go.Sort Go.Proofs Go.Lib
set_option linter.unusedVariables false
set_option linter.unusedSimpArgs false
section
variable (w : World) {ops : Array Oper} {rest : List Oper} {o : Oper} {a : Act} {Q : Exit → Act → World → Prop}
theorem wpList_rangeF (hg : o.guard = none) (m : Operand) (t : TypeId) (hop : o.op = Op.range t m) (e : TypeId) (ht : Yba.prog.underlying t = some (.map 3 e)) (b n : Nat) (mf : Nat → Option Value)
    (hm : a.eval m = .map (some b)) (h : MapF w b n mf) (z : Nat) (hz : w.heap.size = z)
    (hK : ∀ w' cnt, RngF w' b z n mf (fun k => (mf k).isSome) cnt → Fr [] w w' → w'.heap.size = z + 1 → wpList Yba.prog ops Q rest (a.put o.dst (.pointer (some ⟨z, 0, none⟩))) w') :
    wpList Yba.prog ops Q (o :: rest) a w := by
  subst hz
  refine wpList_plain hg fun K' hK' => ?_
  obtain ⟨w', cnt, hrun, r1, r2, r3⟩ := h.range ht
  unfold Oper.wp
  simp [execOp, hop, hm, hrun, Result.andThen]
  exact hK' _ _ (hK w' cnt r1 r2 r3)
theorem wpList_nextF (hg : o.guard = none) (it : Operand) (hop : o.op = Op.next it false) (b r n : Nat) (mf : Nat → Option Value) (left : Nat → Bool) (cnt : Nat)
    (hit : a.eval it = .pointer (some ⟨r, 0, none⟩)) (h : RngF w b r n mf left cnt)
    (hDone : (∀ k, k < 10000 → left k = false) → wpList Yba.prog ops Q rest (a.put o.dst (.tuple #[.bool false])) w)
    (hMore : ∀ (k : Nat) (v : Value) (w' : World) (cnt' : Nat), k < 10000 → left k = true → RngF w' b r n mf (fun x => left x && decide (x ≠ k)) cnt' → cnt' < cnt → Fr [r] w w' → w'.heap.size = w.heap.size →
      (Instr.entry (.pointer (some ⟨r, 0, none⟩))).run Yba.prog w' = .ok (.tuple #[.int .i64 (k : Int), v]) w' → wpList Yba.prog ops Q rest (a.put o.dst (.tuple #[.bool true, .int .i64 (k : Int), v])) w') :
    wpList Yba.prog ops Q (o :: rest) a w := by
  refine wpList_plain hg fun K' hK' => ?_
  unfold Oper.wp
  rcases h.next o.type with ⟨hl, hrun⟩ | ⟨k, v, w', cnt', hk, hlk, hv, hrun, hrg, hlt, hgr, hsz, hen⟩
  · simp [execOp, hop, hit, hrun, Result.andThen]
    exact hK' _ _ (hDone hl)
  · simp [execOp, hop, hit, hrun, Result.andThen]
    exact hK' _ _ (hMore k v w' cnt' hk hlk hrg hlt hgr hsz hen)
end
end Go.Proofs.Ybulkdpsg

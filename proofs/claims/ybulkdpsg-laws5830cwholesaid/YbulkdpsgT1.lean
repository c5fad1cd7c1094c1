/- S5830C: the sticky placement: warm: plain part. -/
import Derived.Test.YbulkdpsgS4
import Derived.Test.YbulkdpsgQ4
import Derived.Deep.LoopGhost
namespace Go.Proofs.Ybulkdpsg
open Go Go.RowKit Go.Sort Go.Proofs Go.Lib
set_option linter.unusedVariables false
set_option linter.unusedSimpArgs false

theorem MapF.len {t e : TypeId} {w : World} {b n : Nat} {m : Nat → Option Value} (h : MapF w b n m) (ht : Yba.prog.underlying t = some (.map 3 e)) : ∃ c : Nat, ∀ q ty, (Builtin.len_ #[t] ty #[.map (some b)]).run Yba.prog (w.drewN q) = .ok (.int .i64 (c : Int)) (w.drewN q) := by
  obtain ⟨D, h, f⟩ := h
  refine ⟨Maps.size D, fun q ty => ?_⟩
  have h' : (w.drewN q).ownsMap Yba.prog 3 RV b n D := h
  exact h'.len ht ty
/-- The variables of warm. -/
structure Wb (w wr : World) (bx bb bj o : Nat) (r : Int) : Prop where
  rx : wr.rowIs bx 198 1 (fun _ => pn bj o)
  rb : wr.rowIs bb 3 1 (fun _ => .int .i64 r)
  fr : Fr [] w wr
  nx : w.heap.size ≤ bx
  nb : w.heap.size ≤ bb
  ne : bx ≠ bb
theorem Wb.step {w wr wr' : World} {bx bb bj o : Nat} {r r' : Int} (h : Wb w wr bx bb bj o r) {q : Nat} (hw : wr' = (wr.setCell ⟨bb, 0, none⟩ (.int .i64 r')).drewN q ∨ (wr' = wr.drewN q ∧ r' = r)) : Wb w wr' bx bb bj o r' := by
  rcases hw with rfl | ⟨rfl, rfl⟩
  · refine ⟨h.rx.setOther h.ne _, (h.rb.set 0 _).congr (fun i hi => by simp; omega), ?_, h.nx, h.nb, h.ne⟩
    have hn := h.nb
    exact ⟨h.fr.os, h.fr.tape, h.fr.output, by have := h.fr.size; simp [World.drewN, World.setCell]; exact this, fun k hk _ => by
      show (wr.setCell _ _).heap[k]? = _
      rw [Deep.blk_setCell_other _ _ _ _ (by show k ≠ bb; omega)]; exact h.fr.block k hk (by simp)⟩
  · exact ⟨h.rx, h.rb, ⟨h.fr.os, h.fr.tape, h.fr.output, h.fr.size, h.fr.block⟩, h.nx, h.nb, h.ne⟩
/-- .. where a block that is neither is written. -/
theorem Wb.other {w wr wr' : World} {bx bb bj o : Nat} {r : Int} {S : List Nat} (h : Wb w wr bx bb bj o r) (hf : Fr S wr wr') (hS : ∀ b ∈ S, w.heap.size ≤ b ∧ b ≠ bx ∧ b ≠ bb) : Wb w wr' bx bb bj o r := by
  have g := h.fr
  exact ⟨hf.row h.rx (fun hm => (hS _ hm).2.1 rfl), hf.row h.rb (fun hm => (hS _ hm).2.2 rfl), ⟨hf.os.trans g.os, hf.tape.trans g.tape, hf.output.trans g.output, Nat.le_trans g.size hf.size, fun k hk _ => by
    rw [hf.block k (Nat.lt_of_lt_of_le hk g.size) (fun hm => by have := (hS _ hm).1; omega), g.block k hk (by simp)]⟩, h.nx, h.nb, h.ne⟩
theorem Wb.start (w : World) (bj o : Nat) : Wb w (((w.alloc (.cells #[pn bj o] 198)).alloc (.cells #[.int .i64 0] 3)).setCell ⟨w.heap.size + 1, 0, none⟩ (.int .i64 (-1))) w.heap.size (w.heap.size + 1) bj o (-1) := by
  have h1 := World.rowIs_alloc w #[pn bj o] 198 (fun _ => pn bj o) (fun i hi => by rcases (show i = 0 by simp at hi; omega) with rfl; rfl)
  have h2 := World.rowIs_alloc (w.alloc (.cells #[pn bj o] 198)) #[.int .i64 0] 3 (fun _ => .int .i64 0) (fun i hi => by rcases (show i = 0 by simp at hi; omega) with rfl; rfl)
  have e : (w.alloc (.cells #[pn bj o] 198)).heap.size = w.heap.size + 1 := by simp
  rw [e] at h2
  have h0 : Wb w ((w.alloc (.cells #[pn bj o] 198)).alloc (.cells #[.int .i64 0] 3)) w.heap.size (w.heap.size + 1) bj o 0 := ⟨h1.alloc _, h2, (Fr.alloc _ _ _).trans (Fr.alloc _ _ _), Nat.le_refl _, by omega, by omega⟩
  exact h0.step (q := 0) (Or.inl rfl)
/-- A worker with a free slot remembers k. -/
def HeldK (nW : Nat) (S : WSt) (k : Nat) : Prop := ∃ v, v < nW ∧ 0 < S.free v ∧ k ∈ (S.els v).map Prod.snd
theorem held_any {own : Nat → Nat} {w : World} {base nW nK sz lm : Nat} {pen : Int} {I : Ids} {S : WSt} (h : WS own w base nW nK sz lm pen I S) {k : Nat} (hk : k < nK) : (S.hold k).any (opB S.free) = true ↔ HeldK nW S k := by
  rw [List.any_eq_true]
  constructor
  · rintro ⟨v, h1, h2⟩
    obtain ⟨h3, h4⟩ := ((h.hs k hk).2 v).1 h1
    exact ⟨v, h3, by simp [opB] at h2; omega, h4⟩
  · rintro ⟨v, h1, h2, h3⟩
    exact ⟨v, ((h.hs k hk).2 v).2 ⟨h1, h3⟩, by simp [opB]; omega⟩
theorem elOf_isSome (es : List (Nat × Nat)) (k : Nat) : (elOf es k).isSome = true ↔ k ∈ es.map Prod.snd := by
  unfold elOf
  rw [Option.isSome_map, List.find?_isSome]
  constructor
  · rintro ⟨e, h1, h2⟩; simp at h2; exact List.mem_map.2 ⟨e, h1, h2⟩
  · intro h; obtain ⟨e, h1, h2⟩ := List.mem_map.1 h; exact ⟨e, h1, by simp [h2]⟩
end Go.Proofs.Ybulkdpsg

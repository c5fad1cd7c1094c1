/- S5830C: newSticky. -/
import Derived.Test.YbulkdpsgN1
import Derived.Test.YbulkdpsgS4
import Derived.Deep.RegionWith
import Derived.Deep.DeepCutAuto
namespace Go.Proofs.Ybulkdpsg
open Go Go.RowKit Go.Sort Go.Proofs Go.Lib
set_option linter.unusedVariables false
set_option linter.unusedSimpArgs false

def z2 : Array Value := #[.slice none 0 0, .map none]
theorem mk132 (n : Nat) (hn : n ≤ 5000) (w : World) : (Instr.makeSlice 132 (.int .i64 (n : Int)) (.int .i64 (n : Int))).run Yba.prog w = .ok (.slice (some ⟨w.heap.size, 0, none⟩) n n) (w.alloc (.cells (madeCells z2 (n * 2)) 138)) := run_makeK 132 138 z2 2 32 Yba.underlying132 i138 n (by omega) (by omega) w
theorem mk72 (n : Nat) (hn : n ≤ 5000) (w : World) : (Instr.makeSlice 72 (.int .i64 (n : Int)) (.int .i64 (n : Int))).run Yba.prog w = .ok (.slice (some ⟨w.heap.size, 0, none⟩) n n) (w.alloc (.cells (madeCells #[.bool false] n) 4)) := run_make_row' 72 4 (.bool false) 1 Yba.underlying72 (by kernel_rfl) rfl _ _ n (by omega) (by omega) w
theorem al3 (w : World) (o1 o2 o3 : Obj) : (((w.alloc o1).alloc o2).alloc o3).heap[w.heap.size]? = some o1 ∧ (((w.alloc o1).alloc o2).alloc o3).heap[w.heap.size + 1]? = some o2 ∧ (((w.alloc o1).alloc o2).alloc o3).heap[w.heap.size + 1 + 1]? = some o3 ∧ Fr [] w (((w.alloc o1).alloc o2).alloc o3) ∧ (((w.alloc o1).alloc o2).alloc o3).heap.size = w.heap.size + 3 := by
  have hh : (((w.alloc o1).alloc o2).alloc o3).heap = ((w.heap.push o1).push o2).push o3 := rfl
  refine ⟨?_, ?_, ?_, ((Fr.alloc _ _ _).trans (Fr.alloc _ _ _)).trans (Fr.alloc _ _ _), ?_⟩
  all_goals rw [hh]
  all_goals simp only [Array.getElem?_push, Array.size_push]
  all_goals repeat (first | rw [if_pos trivial] | rw [if_neg (by omega)])
structure SMade (w w' : World) (br bt n bw nJ : Nat) (K : SId) : Prop where
  rs : w'.rowIs K.bs 134 5 (stF br bt n bw K.bj nJ K.bst)
  rj : w'.rowIs K.bj 138 (nJ * 2) (fun i => z2[i % 2]!)
  rt : w'.rowIs K.bst 4 n (fun _ => .bool false)
  fr : Fr [] w w'
  n1 : w.heap.size ≤ K.bs ∧ w.heap.size ≤ K.bj ∧ w.heap.size ≤ K.bst
  n2 : K.bs ≠ K.bj ∧ K.bs ≠ K.bst ∧ K.bj ≠ K.bst
theorem smade {w w' : World} {br bt n bw nJ : Nat} {K : SId} (h1 : w'.heap[K.bs]? = some (.cells #[.iface 58 (pn br 0), .slice (some ⟨bt, 0, none⟩) n n, pn bw 0, .slice (some ⟨K.bj, 0, none⟩) nJ nJ, .slice (some ⟨K.bst, 0, none⟩) n n] 134))
    (h2 : w'.heap[K.bj]? = some (.cells (madeCells z2 (nJ * 2)) 138)) (h3 : w'.heap[K.bst]? = some (.cells (madeCells #[.bool false] n) 4)) (hf : Fr [] w w')
    (n1 : w.heap.size ≤ K.bs ∧ w.heap.size ≤ K.bj ∧ w.heap.size ≤ K.bst) (n2 : K.bs ≠ K.bj ∧ K.bs ≠ K.bst ∧ K.bj ≠ K.bst) : SMade w w' br bt n bw nJ K :=
  ⟨rowOf h1 rfl (fun i hi => by rcases (show i = 0 ∨ i = 1 ∨ i = 2 ∨ i = 3 ∨ i = 4 by omega) with rfl | rfl | rfl | rfl | rfl <;> rfl),
   rowOf h2 (size_madeCells _ _) (fun i hi => by simp [madeCells, hi]; rfl), rowOf h3 (size_madeCells _ _) (fun i hi => by simp [madeCells, hi, Nat.mod_one]), hf, n1, n2⟩
theorem agg134 (w : World) : (isAgg 134).run Yba.prog w = .ok true w := by kernel_rfl
theorem size134 (w : World) : (Go.sizeOf 134).run Yba.prog w = .ok 5 w := by kernel_rfl
theorem cf93 (args : Array Value) (w : World) : (callFunc 93 args).run Yba.prog w = .ok (.enter 93 args) w := by kernel_rfl
def ruZ (j : Nat) (last : Int) : RuSt := ⟨j, fun _ => 0, fun _ => 0, j, 0, 0, 0, last⟩
/-- The jobs up to j are made. -/
structure NsL (own0 own : Nat → Nat) (w wr : World) (base br bt n bw nJ : Nat) (last : Int) (K : SId) (mp : Nat → Nat) (j : Nat) : Prop where
  rs : wr.rowIs K.bs 134 5 (stF br bt n bw K.bj nJ K.bst)
  rj : wr.rowIs K.bj 138 (nJ * 2) (fun i => if i % 2 = 0 then .slice none 0 0 else if i / 2 < j then .map (some (mp (i / 2))) else .map none)
  rt : wr.rowIs K.bst 4 n (fun _ => .bool false)
  ms : ∀ v, v < j → MapF wr (mp v) 10000 (fun _ => none)
  o1 : own K.bs = 70
  o2 : own K.bj = 71
  o3 : own K.bst = 72
  o4 : ∀ v, v < j → own (mp v) = 90 + v
  ru : ∃ vw vi, Ru own wr base br vw vi (ruZ j last)
  up : OwnUp w own0 own
  fr : FrT own0 (fun x => x = 41 ∨ x = 42 ∨ x = 43) w wr
  nb : w.heap.size ≤ K.bs ∧ w.heap.size ≤ K.bj ∧ w.heap.size ≤ K.bst
theorem NsL.start {own0 : Nat → Nat} {w wr : World} {base br bt n bw nJ : Nat} {last : Int} {K : SId} {vw vi : Value} (h : SMade w wr br bt n bw nJ K) (hr : Ru own0 w base br vw vi (ruZ 0 last)) (mp : Nat → Nat) : ∃ own, NsL own0 own w wr base br bt n bw nJ last K mp 0 := by
  have n1 := h.n1
  have n2 := h.n2
  have hu : OwnUp w own0 (fun b => if b < w.heap.size then own0 b else if b = K.bs then 70 else if b = K.bj then 71 else 72) := fun b hb => if_pos hb
  have hf : FrT own0 (fun x => x = 41 ∨ x = 42 ∨ x = 43) w wr := ⟨h.fr.os, h.fr.tape, h.fr.output, h.fr.size, fun k hk _ => h.fr.block k hk (by simp)⟩
  have hf0 : FrT own0 (fun _ => False) w wr := ⟨h.fr.os, h.fr.tape, h.fr.output, h.fr.size, fun k hk _ => h.fr.block k hk (by simp)⟩
  refine ⟨_, h.rs, h.rj.congr (fun i hi => ?_), h.rt, fun v hv => by omega, ?_, ?_, ?_, fun v hv => by omega, ⟨vw, vi, hr.kept hf0 hu (fun x hx => hx.elim)⟩, hu, hf, h.n1⟩
  · by_cases e : i % 2 = 0
    · rw [if_pos e, e]; rfl
    · rw [if_neg e, if_neg (by omega), show i % 2 = 1 by omega]; rfl
  · show (if _ then _ else _) = _; rw [if_neg (by omega), if_pos rfl]
  · show (if _ then _ else _) = _; rw [if_neg (by omega), if_neg (by omega), if_pos rfl]
  · show (if _ then _ else _) = _; rw [if_neg (by omega), if_neg (by omega), if_neg (by omega)]
theorem NsL.step {own0 own own' : Nat → Nat} {w wr w1 Wm W2 : World} {base br bt n bw nJ : Nat} {last : Int} {K : SId} {mp : Nat → Nat} {j : Nat} (h : NsL own0 own w wr base br bt n bw nJ last K mp j) (hj : j < nJ) (hf : FrT own (fun x => x = 41 ∨ x = 42 ∨ x = 43) wr w1) (hu : OwnUp wr own own') (hr : ∃ vw vi, Ru own' w1 base br vw vi (ruZ (j + 1) last))
    (hWm : w1.alloc (.map #[] 0) = Wm) (hW2 : Wm.setCell ⟨K.bj, j * 2 + 1, none⟩ (.map (some w1.heap.size)) = W2) : ∃ own2, NsL own0 own2 w W2 base br bt n bw nJ last K (setL mp j w1.heap.size) (j + 1) := by
  have hu2 : OwnUp w1 own' (fun b => if b < w1.heap.size then own' b else 90 + j) := fun b hb => if_pos hb
  have fm : FrT own' (fun x => x = 71) w1 W2 := by
    refine FrT.of (S := [K.bj]) ?_ (fun b hb hm => ?_)
    · rw [← hW2, ← hWm]; exact (Fr.alloc _ _ _).trans (Fr.setCell _ _ _ (by simp))
    · simp at hm; subst hm; rw [hu _ h.rj.lt]; exact h.o2
  have l1 := hf.size
  have os : own' K.bs = 70 := by rw [hu _ h.rs.lt]; exact h.o1
  have oj : own' K.bj = 71 := by rw [hu _ h.rj.lt]; exact h.o2
  have ot : own' K.bst = 72 := by rw [hu _ h.rt.lt]; exact h.o3
  have om : ∀ v, v < j → own' (mp v) = 90 + v := fun v hv => by rw [hu _ (h.ms v hv).lt]; exact h.o4 v hv
  have rs1 := hf.row h.rs (by rw [h.o1]; omega)
  have rj1 := hf.row h.rj (by rw [h.o2]; omega)
  have rt1 := hf.row h.rt (by rw [h.o3]; omega)
  obtain ⟨vw, vi, hru⟩ := hr
  refine ⟨_, fm.row rs1 (by rw [os]; omega), ?_, fm.row rt1 (by rw [ot]; omega), fun v hv => ?_, ?_, ?_, ?_, fun v hv => ?_, ⟨vw, vi, hru.kept fm hu2 (fun x hx => by omega)⟩, ?_, ?_, h.nb⟩
  · have r1 : Wm.rowIs K.bj 138 (nJ * 2) (fun i => if i % 2 = 0 then .slice none 0 0 else if i / 2 < j then .map (some (mp (i / 2))) else .map none) := by rw [← hWm]; exact (Fr.alloc [] w1 _).row rj1 (by simp)
    rw [← hW2]
    refine (r1.set (j * 2 + 1) _).congr fun i hi => ?_
    by_cases e : i = j * 2 + 1
    · subst e; rw [if_pos rfl, if_neg (by omega), if_pos (by omega), show (j * 2 + 1) / 2 = j by omega, setL_same]
    · rw [if_neg e]
      by_cases e2 : i % 2 = 0
      · rw [if_pos e2, if_pos e2]
      · rw [if_neg e2, if_neg e2]
        by_cases e3 : i / 2 < j
        · rw [if_pos e3, if_pos (by omega), setL_other _ _ (by omega)]
        · rw [if_neg e3, if_neg (by omega)]
  · by_cases e : v = j
    · subst e; rw [setL_same, ← hW2, ← hWm]
      exact ((MapF.made w1).fr (S := [K.bj]) (Fr.setCell _ _ _ (by simp)) (by simp; have := rj1.lt; omega)).mono (by omega)
    · rw [setL_other _ _ e]
      have m1 := hf.mapf (h.ms v (by omega)) (by rw [h.o4 v (by omega)]; omega)
      exact fm.mapf m1 (by rw [om v (by omega)]; omega)
  · show (if _ then _ else _) = _; rw [if_pos rs1.lt]; exact os
  · show (if _ then _ else _) = _; rw [if_pos rj1.lt]; exact oj
  · show (if _ then _ else _) = _; rw [if_pos rt1.lt]; exact ot
  · show (if _ then _ else _) = _
    by_cases e : v = j
    · subst e; rw [setL_same, if_neg (by omega)]
    · rw [setL_other _ _ e, if_pos (hf.mapf (h.ms v (by omega)) (by rw [h.o4 v (by omega)]; omega)).lt]; exact om v (by omega)
  · exact (h.up.trans hu h.fr.size).trans hu2 (by have := h.fr.size; omega)
  · have hfr : Fr [K.bj] w1 W2 := by rw [← hW2, ← hWm]; exact (Fr.alloc _ _ _).trans (Fr.setCell _ _ _ (by simp))
    have hsz := h.fr.size
    refine ⟨hfr.os.trans (hf.os.trans h.fr.os), hfr.tape.trans (hf.tape.trans h.fr.tape), hfr.output.trans (hf.output.trans h.fr.output), by have := hfr.size; omega, fun k hk hn => ?_⟩
    by_cases e : k = K.bj
    · have := h.nb.2.1; omega
    · rw [hfr.block k (by omega) (by simp [e]), hf.block k (by omega) (by rw [h.up k hk]; exact hn), h.fr.block k hk hn]
theorem NsL.st {own0 own : Nat → Nat} {w wr : World} {base br bt n bw nJ nK : Nat} {last : Int} {K : SId} {mp : Nat → Nat} (h : NsL own0 own w wr base br bt n bw nJ last K mp nJ) (hK : K.vw = fun _ => .slice none 0 0) (hJ : nJ ≤ 4) (hK5 : nK ≤ 5) (hn : n ≤ 2048) : St own wr base bt n bw br nJ nK { K with mpj := mp } ⟨fun _ => [], fun _ _ => [], fun _ => false⟩ where
  os := h.o1
  oj := h.o2
  ot := h.o3
  ow := fun j hj b hb => by rw [show ({ K with mpj := mp } : SId).vw = K.vw from rfl, hK] at hb; simp [Value.ownBlock] at hb
  om := fun j hj => h.o4 j hj
  ok := fun j hj k hk hne => absurd rfl hne
  rs := h.rs
  rj := h.rj.congr (fun i hi => by
    unfold jbF
    by_cases e : i % 2 = 0
    · rw [if_pos e, if_pos e]; show _ = K.vw (i / 2); rw [hK]
    · rw [if_neg e, if_neg e, if_pos (by omega)])
  rt := h.rt
  qw := fun j hj => by show OwnsQ wr base (K.vw j) []; rw [hK]; exact Or.inl ⟨rfl, rfl⟩
  mp := fun j hj => by
    have : bkF { K with mpj := mp } ⟨fun _ => [], fun _ _ => [], fun _ => false⟩ j = fun _ => none := by funext k; simp [bkF]
    rw [this]; exact h.ms j hj
  qk := fun j hj k hk hne => absurd rfl hne
  kd := fun j hj k hk => rfl
  lw := fun j hj => by simp
  lk := fun j hj k => by simp
  wn := fun j hj t ht => by simp at ht
  kn := fun j hj k t ht => by simp at ht
  b1 := hJ
  b2 := hK5
  b3 := hn
end Go.Proofs.Ybulkdpsg

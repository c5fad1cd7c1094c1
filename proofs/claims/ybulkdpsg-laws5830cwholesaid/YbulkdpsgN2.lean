/- S5830C: newWorkers. -/
import Derived.Test.YbulkdpsgN1
import Derived.Test.YbulkdpsgW2
import Derived.Deep.RegionWith
import Derived.Deep.DeepCutAuto
namespace Go.Proofs.Ybulkdpsg
open Go Go.RowKit Go.Sort Go.Proofs Go.Lib
set_option linter.unusedVariables false
set_option linter.unusedSimpArgs false

/-- The workers up to j are made. -/
structure NwL (w wr : World) (nW nK sz nS : Nat) (pen : Int) (I : Ids) (j : Nat) : Prop where
  rw_ : wr.rowIs I.bw 111 6 (wsF I nW nK sz pen nW)
  rf : wr.rowIs I.bf 3 nW (fun v => .int .i64 (if v < j then (nS : Int) else 0))
  rm : wr.rowIs I.bm 120 (nW * 6) (fun i => if i % 6 = 5 ∧ i / 6 < j then .map (some (w.heap.size + 4 + i / 6)) else z6[i % 6]!)
  rh : wr.rowIs I.bh 48 nK (fun _ => .slice none 0 0)
  mp : ∀ v, v < j → MapF wr (w.heap.size + 4 + v) 10000 (fun _ => none)
  fr : Fr [] w wr
  sz : wr.heap.size = w.heap.size + 4 + j
  n1 : w.heap.size ≤ I.bw ∧ w.heap.size ≤ I.bf ∧ w.heap.size ≤ I.bm ∧ w.heap.size ≤ I.bh
  n2 : I.bw ≠ I.bf ∧ I.bw ≠ I.bm ∧ I.bw ≠ I.bh ∧ I.bf ≠ I.bm ∧ I.bf ≠ I.bh ∧ I.bm ≠ I.bh
  n3 : I.bw < w.heap.size + 4 ∧ I.bf < w.heap.size + 4 ∧ I.bm < w.heap.size + 4 ∧ I.bh < w.heap.size + 4
theorem NwL.start {w wr : World} {nW nK sz nS : Nat} {pen : Int} {I : Ids} (h : WMade w wr nW nK sz pen I) : NwL w wr nW nK sz nS pen I 0 := by
  have l1 := h.rw_.lt
  have l2 := h.rf.lt
  have l3 := h.rm.lt
  have l4 := h.rh.lt
  have hs := h.sz
  exact ⟨h.rw_, h.rf.congr (fun i _ => by simp), h.rm.congr (fun i _ => by simp), h.rh, fun v hv => by omega, h.fr, by rw [hs], h.n1, h.n2, by omega⟩
theorem NwL.step {w wr W1 W2 : World} {nW nK sz nS : Nat} {pen : Int} {I : Ids} {j : Nat} (h : NwL w wr nW nK sz nS pen I j) (hj : j < nW) (hW1 : wr.setCell ⟨I.bf, j, none⟩ (.int .i64 (nS : Int)) = W1) (hW2 : (W1.alloc (.map #[] 0)).setCell ⟨I.bm, j * 6 + 5, none⟩ (.map (some W1.heap.size)) = W2) : NwL w W2 nW nK sz nS pen I (j + 1) := by
  have hs1 : W1.heap.size = wr.heap.size := by rw [← hW1]; simp [World.setCell]
  have hs2 : W2.heap.size = wr.heap.size + 1 := by rw [← hW2]; simp [World.setCell, hs1]
  have hs := h.sz
  have f1 : Fr [I.bf] wr W1 := by rw [← hW1]; exact Fr.setCell _ _ _ (by simp)
  have f2 : Fr [I.bm] W1 W2 := by rw [← hW2]; exact (Fr.alloc _ _ _).trans (Fr.setCell _ _ _ (by simp))
  have n1 := h.n1
  have n2 := h.n2
  have n3 := h.n3
  have hm0 := MapF.made W1
  have hm1 : MapF W2 W1.heap.size 0 (fun _ => none) := by rw [← hW2]; exact hm0.fr (S := [I.bm]) (Fr.setCell _ _ _ (by simp)) (by simp; omega)
  refine ⟨f2.row (f1.row h.rw_ (by simp; omega)) (by simp; omega), f2.row ?_ (by simp; omega), ?_, f2.row (f1.row h.rh (by simp; omega)) (by simp; omega), fun v hv => ?_, ?_, by omega, h.n1, h.n2, h.n3⟩
  · rw [← hW1]
    refine (h.rf.set j _).congr fun i hi => ?_
    by_cases e : i = j
    · subst e; simp
    · rw [if_neg e]
      by_cases e2 : i < j
      · rw [if_pos e2, if_pos (by omega)]
      · rw [if_neg e2, if_neg (by omega)]
  · rw [← hW2]
    have r1 : (W1.alloc (.map #[] 0)).rowIs I.bm 120 (nW * 6) (fun i => if i % 6 = 5 ∧ i / 6 < j then .map (some (w.heap.size + 4 + i / 6)) else z6[i % 6]!) := (Fr.alloc [] W1 _).row (f1.row h.rm (by simp; omega)) (by simp)
    refine (r1.set (j * 6 + 5) _).congr fun i hi => ?_
    by_cases e : i = j * 6 + 5
    · subst e; rw [if_pos rfl, if_pos (by omega), hs1, hs, show (j * 6 + 5) / 6 = j by omega]
    · rw [if_neg e]
      by_cases e2 : i % 6 = 5 ∧ i / 6 < j
      · rw [if_pos e2, if_pos (by omega)]
      · rw [if_neg e2, if_neg (by omega)]
  · by_cases e : v = j
    · subst e; rw [← hs, ← hs1]; exact hm1.mono (by omega)
    · exact ((h.mp v (by omega)).fr f1 (by simp; omega)).fr f2 (by simp; omega)
  · have g := h.fr
    exact ⟨f2.os.trans (f1.os.trans g.os), f2.tape.trans (f1.tape.trans g.tape), f2.output.trans (f1.output.trans g.output), by have := g.size; omega, fun k hk _ => by
      rw [f2.block k (by omega) (by simp; omega), f1.block k (by omega) (by simp; omega), g.block k hk (by simp)]⟩
theorem NwL.ws {w wr : World} {nW nK sz nS : Nat} {pen : Int} {I : Ids} (h : NwL w wr nW nK sz nS pen I nW) (hI : I.mp = fun v => w.heap.size + 4 + v) (hI2 : I.hv = fun _ => .slice none 0 0) (hS : 0 < nS ∧ nS ≤ 3) (hsz : sz ≤ 3) (hW : 0 < nW ∧ nW ≤ 4) (hK : nK ≤ 5) (own : Nat → Nat) (base : Nat) :
    ∃ own', WS own' wr base nW nK sz sz pen I ⟨fun _ => nS, fun _ => [], fun _ => false, fun _ => []⟩ ∧ OwnUp w own own' ∧ FrT own (fun _ => False) w wr := by
  have n1 := h.n1
  have n2 := h.n2
  have n3 := h.n3
  have hop : ∀ n, opn (fun _ => nS) n = n := fun n => by
    induction n with
    | zero => rfl
    | succ n ih => unfold opn; rw [ih, if_neg (by omega)]
  refine ⟨fun b => if b < w.heap.size then own b else if b = I.bw then 1 else if b = I.bf then 2 else if b = I.bm then 3 else if b = I.bh then 4 else 10 + (b - (w.heap.size + 4)), ?_, fun b hb => if_pos hb, ⟨h.fr.os, h.fr.tape, h.fr.output, h.fr.size, fun k hk _ => h.fr.block k hk (by simp)⟩⟩
  have hz : ∀ i, i < 6 → i ≠ 5 → z6[i]! = #[Value.pointer none, .pointer none, .pointer none, .nilIface, .int .i64 0, .map none][i]! := fun _ _ _ => rfl
  exact {
    ow := by show (if _ then _ else _) = _; rw [if_neg (by omega), if_pos rfl]
    of_ := by show (if _ then _ else _) = _; rw [if_neg (by omega), if_neg (by omega), if_pos rfl]
    om := by show (if _ then _ else _) = _; rw [if_neg (by omega), if_neg (by omega), if_neg (by omega), if_pos rfl]
    oh := by show (if _ then _ else _) = _; rw [if_neg (by omega), if_neg (by omega), if_neg (by omega), if_neg (by omega), if_pos rfl]
    omp := fun v hv => by rw [show I.mp v = w.heap.size + 4 + v by rw [hI]]; show (if _ then _ else _) = _; rw [if_neg (by omega), if_neg (by omega), if_neg (by omega), if_neg (by omega), if_neg (by omega)]; omega
    oel := fun v hv e he => by simp at he
    ohv := fun k hk b hb => by rw [hI2] at hb; simp [Value.ownBlock] at hb
    rw_ := by show wr.rowIs I.bw 111 6 (wsF I nW nK sz pen (opn (fun _ => nS) nW)); rw [hop]; exact h.rw_
    rf := h.rf.congr (fun i hi => by rw [if_pos hi])
    rm := ⟨_, h.rm, fun v hv => ⟨⟨⟨h.rm, by omega, by
        show (if (v * 6) % 6 = 5 ∧ _ then _ else _) = _
        rw [if_neg (by omega), show (v * 6) % 6 = 0 by omega]; rfl⟩, rfl⟩, by
        show (if (v * 6 + 5) % 6 = 5 ∧ (v * 6 + 5) / 6 < nW then _ else _) = _
        rw [if_pos (by omega), hI, show (v * 6 + 5) / 6 = v by omega]⟩⟩
    mapf := fun v hv => by rw [hI]; exact h.mp v hv
    rh := by rw [hI2]; exact h.rh
    ho := fun k hk => by rw [hI2]; exact ⟨by simp, Or.inl ⟨rfl, rfl⟩⟩
    ap := fun v hv => by simp
    kn := fun v hv => by simp
    kl := fun v hv e he => by simp at he
    ln := fun v hv => by simp
    hs := fun k hk => ⟨by simp, fun v => by simp⟩
    b1 := ⟨hsz, by omega⟩
    b2 := hW
    b3 := hK
    b4 := fun v hv => hS.2 }
set_option maxRecDepth 100000 in
set_option maxHeartbeats 2000000 in
theorem newWorkers22 (nW nS nC nK : Nat) (pen : Int) (w : World) (hW : 0 < nW ∧ nW ≤ 4) (hS : 0 < nS ∧ nS ≤ 3) (hC : nC ≤ 3) (hK : nK ≤ 5) :
    Calls Yba.prog 22 #[.int .i64 (nW : Int), .int .i64 (nS : Int), .int .i64 (nC : Int), .int .i64 pen, .int .i64 (nK : Int)] w fun e w' => ∃ I : Ids, e = .returned (pn I.bw 0) ∧ w.heap.size ≤ I.bw ∧ ∀ own base, ∃ own', WS own' w' base nW nK (min nC nK) (min nC nK) pen I ⟨fun _ => nS, fun _ => [], fun _ => false, fun _ => []⟩ ∧ OwnUp w own own' ∧ FrT own (fun _ => False) w w' := by
  have mixed := mixedYba
  have aE := agg111
  have zE := size111
  have m1 := mk48 nW (by omega)
  have m2 := mk109 nW (by omega)
  have m3 := mk73 nK (by omega)
  have hmm := @run_makeMap Yba.prog
  obtain ⟨sz, hsz⟩ : ∃ x, x = min nC nK := ⟨_, rfl⟩
  have HSZ : Hid (sz = min nC nK) := hsz
  rw [← hsz]
  clear hsz
  go_enter Yba.func22, Yba.ntmps22
  go_upto_region 1 with fail
  go_cut [11] (fun v wx => ∃ I : Ids, v = pn I.bw 0 ∧ Hid (WMade w wx nW nK sz pen I ∧ I.mp = (fun v => w.heap.size + 4 + v) ∧ I.hv = fun _ => .slice none 0 0))
  case first =>
    go_region
    all_goals go_wp2_with fail
    all_goals go_meet
    all_goals
      have hmn : min (nC : Int) (nK : Int) = (sz : Int) := by rw [HSZ.out]; omega
      rw [hmn]
      first
      | exact ⟨⟨w.heap.size + 1 + 1 + 1, w.heap.size, (w.heap.size + 1), (w.heap.size + 1 + 1), fun v => w.heap.size + 4 + v, fun _ => .slice none 0 0⟩, rfl, wmade (al4 w _ _ _ _).2.2.2.1 (al4 w _ _ _ _).1 (al4 w _ _ _ _).2.1 (al4 w _ _ _ _).2.2.1 ((al4 w _ _ _ _).2.2.2.2.1.trans (Fr.drewN _ _ 1)) (al4 w _ _ _ _).2.2.2.2.2 (by simp; omega) (by simp; omega), rfl, rfl⟩
      | exact ⟨⟨w.heap.size + 1 + 1 + 1, w.heap.size, (w.heap.size + 1 + 1), (w.heap.size + 1), fun v => w.heap.size + 4 + v, fun _ => .slice none 0 0⟩, rfl, wmade (al4 w _ _ _ _).2.2.2.1 (al4 w _ _ _ _).1 (al4 w _ _ _ _).2.2.1 (al4 w _ _ _ _).2.1 ((al4 w _ _ _ _).2.2.2.2.1.trans (Fr.drewN _ _ 1)) (al4 w _ _ _ _).2.2.2.2.2 (by simp; omega) (by simp; omega), rfl, rfl⟩
      | exact ⟨⟨w.heap.size + 1 + 1 + 1, (w.heap.size + 1), w.heap.size, (w.heap.size + 1 + 1), fun v => w.heap.size + 4 + v, fun _ => .slice none 0 0⟩, rfl, wmade (al4 w _ _ _ _).2.2.2.1 (al4 w _ _ _ _).2.1 (al4 w _ _ _ _).1 (al4 w _ _ _ _).2.2.1 ((al4 w _ _ _ _).2.2.2.2.1.trans (Fr.drewN _ _ 1)) (al4 w _ _ _ _).2.2.2.2.2 (by simp; omega) (by simp; omega), rfl, rfl⟩
      | exact ⟨⟨w.heap.size + 1 + 1 + 1, (w.heap.size + 1), (w.heap.size + 1 + 1), w.heap.size, fun v => w.heap.size + 4 + v, fun _ => .slice none 0 0⟩, rfl, wmade (al4 w _ _ _ _).2.2.2.1 (al4 w _ _ _ _).2.1 (al4 w _ _ _ _).2.2.1 (al4 w _ _ _ _).1 ((al4 w _ _ _ _).2.2.2.2.1.trans (Fr.drewN _ _ 1)) (al4 w _ _ _ _).2.2.2.2.2 (by simp; omega) (by simp; omega), rfl, rfl⟩
      | exact ⟨⟨w.heap.size + 1 + 1 + 1, (w.heap.size + 1 + 1), w.heap.size, (w.heap.size + 1), fun v => w.heap.size + 4 + v, fun _ => .slice none 0 0⟩, rfl, wmade (al4 w _ _ _ _).2.2.2.1 (al4 w _ _ _ _).2.2.1 (al4 w _ _ _ _).1 (al4 w _ _ _ _).2.1 ((al4 w _ _ _ _).2.2.2.2.1.trans (Fr.drewN _ _ 1)) (al4 w _ _ _ _).2.2.2.2.2 (by simp; omega) (by simp; omega), rfl, rfl⟩
      | exact ⟨⟨w.heap.size + 1 + 1 + 1, (w.heap.size + 1 + 1), (w.heap.size + 1), w.heap.size, fun v => w.heap.size + 4 + v, fun _ => .slice none 0 0⟩, rfl, wmade (al4 w _ _ _ _).2.2.2.1 (al4 w _ _ _ _).2.2.1 (al4 w _ _ _ _).2.1 (al4 w _ _ _ _).1 ((al4 w _ _ _ _).2.2.2.2.1.trans (Fr.drewN _ _ 1)) (al4 w _ _ _ _).2.2.2.2.2 (by simp; omega) (by simp; omega), rfl, rfl⟩
  case rest =>
  obtain ⟨I, rfl, HP⟩ := hcut
  clear m1 m2 m3
  have hc0 : wc.cell? ⟨I.bw, 0, none⟩ = some (.slice (some ⟨I.bf, 0, none⟩) nW nW) := HP.out.1.rw_.cell (i := 0) (by omega)
  go_wp2_with fail
  clear hc0
  go_loopw [31] (fun iv wr => ∃ j : Nat, iv = .int .i64 (j : Int) ∧ j ≤ nW ∧ Hid (NwL w wr nW nK sz nS pen I j)) (fun iv _ => nW - (intOf iv).toNat)
  case atStart => exact ⟨0, rfl, Nat.zero_le _, NwL.start HP.out.1⟩
  case round =>
    obtain ⟨j, rfl, hj, HR⟩ := hrel
    by_cases hlt : j < nW
    · have zj : (j : Int) < (nW : Int) := by omega
      have c0 : wr.cell? ⟨I.bw, 0, none⟩ = some (.slice (some ⟨I.bf, 0, none⟩) nW nW) := HR.out.rw_.cell (i := 0) (by omega)
      have cj := HR.out.rf.cell hlt
      have fj := HR.out.rf.frozen j
      obtain ⟨W1, hW1⟩ : ∃ X, wr.setCell ⟨I.bf, j, none⟩ (.int .i64 (nS : Int)) = X := ⟨_, rfl⟩
      obtain ⟨W2, hW2⟩ : ∃ X, (W1.alloc (.map #[] 0)).setCell ⟨I.bm, j * 6 + 5, none⟩ (.map (some W1.heap.size)) = X := ⟨_, rfl⟩
      have HS2 : Hid (NwL w W2 nW nK sz nS pen I (j + 1)) := HR.out.step hlt hW1 hW2
      have f1 : Fr [I.bf] wr W1 := by rw [← hW1]; exact Fr.setCell _ _ _ (by simp)
      have n2 := HR.out.n2
      have c2 : W1.cell? ⟨I.bw, 2, none⟩ = some (.slice (some ⟨I.bm, 0, none⟩) nW nW) := (f1.row HR.out.rw_ (by simp; omega)).cell (i := 2) (by omega)
      have rmm := f1.row HR.out.rm (by simp; omega)
      have cm := rmm.cell (i := j * 6 + 5) (by omega)
      have fm := rmm.frozen (j * 6 + 5)
      have rmm2 := (Fr.alloc [] W1 (.map #[] 0)).row rmm (by simp)
      have c22 : (W1.alloc (.map #[] 0)).cell? ⟨I.bw, 2, none⟩ = some (.slice (some ⟨I.bm, 0, none⟩) nW nW) := (Fr.alloc [] W1 (.map #[] 0)).cell c2 (by simp)
      have cm2 := rmm2.cell (i := j * 6 + 5) (by omega)
      have fm2 := rmm2.frozen (j * 6 + 5)
      clear f1 n2 rmm rmm2
      obtain ⟨Wm, hWm⟩ : ∃ X, W1.alloc (.map #[] 0) = X := ⟨_, rfl⟩
      rw [hWm] at hW2 c22 cm2 fm2
      go_wp2_with fail
      go_roundw
      case measure => simp [intOf]; omega
      case rel => exact ⟨j + 1, rfl, by omega, HS2⟩
    · have ej : j = nW := by omega
      subst ej
      go_wp2
      go_ret
      refine ⟨I, rfl, HP.out.1.n1.1, fun own base => ?_⟩
      have hz := HSZ.out
      exact HR.out.ws HP.out.2.1 HP.out.2.2 hS (by omega) hW hK own base
end Go.Proofs.Ybulkdpsg

/- S5830C: (*workers).start: the walk. -/
import Derived.Test.YbulkdpsgW7
namespace Go.Proofs.Ybulkdpsg
open Go Go.RowKit Go.Proofs Go.Lib
set_option linter.unusedVariables false
set_option linter.unusedSimpArgs false

/-- What (*workers).start leaves. -/
structure Started (own own' : Nat → Nat) (w w' : World) (base nW nK sz : Nat) (pen : Int) (I I' : Ids) (S S' : WSt) (v k : Nat) : Prop where
  ws : WS own' w' base nW nK sz sz pen I' S'
  free : S'.free = setN S.free v (S.free v - 1)
  bw : I'.bw = I.bw
  bf : I'.bf = I.bf
  mem : (S'.els v).map Prod.snd = memT sz ((S.els v).map Prod.snd) k
  oth : ∀ u, u ≠ v → S'.els u = S.els u
  up : OwnUp w own own'
  fr : FrT own (fun x => 1 ≤ x ∧ x < 40) w w'
theorem opn_dec (free : Nat → Nat) (v : Nat) (n : Nat) (hv : v < n) (hf : 0 < free v) : opn (setN free v (free v - 1)) n + (if free v = 1 then 1 else 0) = opn free n := by
  have := opn_upd free v (free v - 1) n hv
  unfold setN
  rw [if_neg (show ¬ free v = 0 by omega)] at this
  by_cases h : free v = 1
  · rw [if_pos h]; rw [if_pos (by omega)] at this; omega
  · rw [if_neg h]; rw [if_neg (by omega)] at this; omega
theorem started_of {own own' : Nat → Nat} {w W W' : World} {base nW nK sz : Nat} {pen : Int} {I I' : Ids} {S S' : WSt} {v k : Nat} (h : StOk own own' w W base nW nK sz sz pen I I' S S' v k) (hf : 0 < S.free v) (hv : v < nW) (hfr : Fr [I.bf, I.bw] W W') (r1 : W'.rowIs I.bw 111 6 (wsF I' nW nK sz pen (opn (setN S.free v (S.free v - 1)) nW))) (r2 : W'.rowIs I.bf 3 nW (fun u => .int .i64 (setN S.free v (S.free v - 1) u : Int))) : ∃ own' I' S', Started own own' w W' base nW nK sz pen I I' S S' v k := by
  have hu := h.ws.upd (setN S.free v (S.free v - 1)) (by rw [h.bw, h.bf]; exact hfr) (by rw [h.bw]; exact r1) (by rw [h.bf]; exact r2) (fun u hu => by
    unfold setN; split
    · have := h.ws.b4 v hv; rw [h.free] at this; omega
    · have := h.ws.b4 u hu; rw [h.free] at this; exact this)
  refine ⟨own', I', _, ⟨hu, rfl, h.bw, h.bf, h.mem, h.oth, h.up, ?_⟩⟩
  refine h.fr.trans h.up (FrT.of hfr (fun b _ hb => ?_))
  simp at hb
  rcases hb with rfl | rfl
  · rw [← h.bf, h.ws.of_]; omega
  · rw [← h.bw, h.ws.ow]; omega
set_option maxRecDepth 100000 in
set_option maxHeartbeats 2000000 in
theorem start_warm {own : Nat → Nat} {w : World} {base nW nK sz : Nat} {pen : Int} {I : Ids} {S : WSt} (h : WS own w base nW nK sz sz pen I S) {v k : Nat} (hv : v < nW) (hk : k < nK) (hfree : 0 < S.free v) (hw : k ∈ (S.els v).map Prod.snd) :
    Calls Yba.prog 38 #[pn I.bw 0, .int .i64 (v : Int), .int .i64 (k : Int)] w fun e w' => e = .returned (.bool false) ∧ ∃ own' I' S', Started own own' w w' base nW nK sz pen I I' S S' v k := by
  have HH : Hid (WS own w base nW nK sz sz pen I S) := h
  have hnW : nW ≤ 4 := h.b2.2
  have hnK : nK ≤ 5 := h.b3
  have hsz : sz ≤ 3 := h.b1.1
  obtain ⟨_, _, w2c, w3c, w4c, _⟩ := ws_row h
  obtain ⟨cm, hcm, hl⟩ := h.rm
  have cmp : w.cell? ⟨I.bm, v * 6 + 5, none⟩ = some (.map (some (I.mp v))) := by rw [hcm.cell (by omega), (hl v hv).2]
  have HCM : Hid (w.rowIs I.bm 120 (nW * 6) cm) := hcm
  have HL : Hid (∀ v, v < nW → ListOk w I nW cm (S.ini v) v (S.els v) ∧ cm (v * 6 + 5) = .map (some (I.mp v))) := hl
  have zv : (v : Int) < (nW : Int) := by omega
  obtain ⟨i, e, hi, hek⟩ := idx_of_key hw
  have hlook := (h.mapf v hv).look under112 (zero113 w) (show k < 10000 by omega)
  rw [elOf_some (h.kn v hv) hi hek] at hlook
  have hmv := ws_warm h hv hi
  rw [hek] at hmv
  clear h hl hcm hw hi hek
  go_enter Yba.func38, Yba.ntmps38
  go_upto_region 15 with (first | (go_at_call 48; refine hmv.mono ?_; clear hmv; rintro x W ⟨rfl, S1, hs⟩; have HS : Hid (StOk own own w W base nW nK sz sz pen I I S S1 v k) := hs; clear hs))
  obtain ⟨I1, hI1⟩ : ∃ I1, I1 = I := ⟨_, rfl⟩
  have HS : Hid (StOk own own w W base nW nK sz sz pen I I1 S S1 v k) := by rw [hI1]; exact HS
  clear hI1
  have hbw := HS.out.bw
  have hbf := HS.out.bf
  have c0 : W.cell? ⟨I.bw, 0, none⟩ = some (.slice (some ⟨I.bf, 0, none⟩) nW nW) := by have := (ws_row HS.out.ws).1; rw [hbw, hbf] at this; exact this
  have c1 : W.cell? ⟨I.bw, 1, none⟩ = some (.int .i64 (opn S.free nW : Int)) := by have := (ws_row HS.out.ws).2.1; rw [hbw, HS.out.free] at this; exact this
  have f1 : W.frozen? ⟨I.bw, 1, none⟩ = false := by have := HS.out.ws.rw_.frozen 1; rw [hbw] at this; exact this
  have cv : W.cell? ⟨I.bf, v, none⟩ = some (.int .i64 (S.free v : Int)) := by have := HS.out.ws.rf.cell hv; rw [hbf, HS.out.free] at this; exact this
  have fv : W.frozen? ⟨I.bf, v, none⟩ = false := by have := HS.out.ws.rf.frozen v; rw [hbf] at this; exact this
  have nwf : I.bw ≠ I.bf := fun e => by have h1 := HS.out.ws.ow; have h2 := HS.out.ws.of_; rw [hbw, e] at h1; rw [hbf] at h2; omega
  have nfw : I.bf ≠ I.bw := Ne.symm nwf
  have hop : opn S.free nW ≤ 4 := by have := opn_le S.free nW; omega
  have hop0 : 0 < opn S.free nW := (opn_pos _ _).2 ⟨v, hv, by omega⟩
  have hfb : S.free v ≤ 3 := by have := HS.out.ws.b4 v hv; rw [HS.out.free] at this; exact this
  obtain ⟨W1, hW1⟩ : ∃ X, W.setCell ⟨I.bf, v, none⟩ (.int .i64 ((S.free v : Int) - 1)) = X := ⟨_, rfl⟩
  have d0 : W1.cell? ⟨I.bw, 0, none⟩ = some (.slice (some ⟨I.bf, 0, none⟩) nW nW) := by rw [← hW1, World.cell?_setCell_other _ _ _ _ (by simp [nfw])]; exact c0
  have d1 : W1.cell? ⟨I.bw, 1, none⟩ = some (.int .i64 (opn S.free nW : Int)) := by rw [← hW1, World.cell?_setCell_other _ _ _ _ (by simp [nfw])]; exact c1
  have dv : W1.cell? ⟨I.bf, v, none⟩ = some (.int .i64 ((S.free v : Int) - 1)) := by rw [← hW1]; exact World.cell?_setCell_same _ _ _ cv
  have g1 : W1.frozen? ⟨I.bw, 1, none⟩ = false := by rw [← hW1, World.frozen?_setCell]; exact f1
  have rf1 : Hid (W1.rowIs I.bf 3 nW (fun u => .int .i64 (setN S.free v (S.free v - 1) u : Int))) := by
    show W1.rowIs _ _ _ _
    have hr := HS.out.ws.rf
    rw [hbf, HS.out.free] at hr
    rw [← hW1]; refine (hr.set v _).congr fun u hu => ?_
    unfold setN; by_cases e : u = v
    · rw [if_pos e, if_pos e]; congr 1; omega
    · rw [if_neg e, if_neg e]
  have rw1 : Hid (W1.rowIs I.bw 111 6 (wsF I1 nW nK sz pen (opn S.free nW))) := by
    show W1.rowIs _ _ _ _
    have hr := HS.out.ws.rw_
    rw [hbw, HS.out.free] at hr
    rw [← hW1]; exact hr.setOther nwf _
  have fr1 : Hid (Fr [I.bf, I.bw] W W1) := by show Fr _ _ _; rw [← hW1]; exact Fr.setCell W _ _ (by simp)
  have hopn : Hid (opn (setN S.free v (S.free v - 1)) nW + (if S.free v = 1 then 1 else 0) = opn S.free nW) := opn_dec S.free v nW hv hfree
  by_cases hz : S.free v = 1
  · have he : (((S.free v : Int) - 1) == 0) = true := by rw [hz]; rfl
    have HO : Hid (opn (setN S.free v (S.free v - 1)) nW = opn S.free nW - 1) := by have := hopn.out; rw [if_pos hz] at this; show _ = _; omega
    have HZ : Hid (S.free v = 1) := hz
    clear hz hopn hbw hbf
    go_wp2
    go_ret
    refine ⟨rfl, started_of HS.out hfree hv (fr1.out.trans (Fr.setCell _ _ _ (by simp))) ?_ (rf1.out.setOther nfw _)⟩
    refine (rw1.out.set 1 _).congr (six (by simp [wsF]) ?_ (by simp [wsF]) (by simp [wsF]) (by simp [wsF]) (by simp [wsF]))
    simp [wsF, HO.out]; omega
  · have he : (((S.free v : Int) - 1) == 0) = false := beq_false_of_ne (by omega)
    have HO : Hid (opn (setN S.free v (S.free v - 1)) nW = opn S.free nW) := by have := hopn.out; rw [if_neg hz] at this; show _ = _; omega
    clear hz hopn hbw hbf
    go_wp2
    go_ret
    refine ⟨rfl, started_of HS.out hfree hv fr1.out ?_ rf1.out⟩
    rw [HO.out]; exact rw1.out
end Go.Proofs.Ybulkdpsg

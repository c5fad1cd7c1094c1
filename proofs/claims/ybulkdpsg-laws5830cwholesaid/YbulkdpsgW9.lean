/- S5830C: (*workers).start: the walk, the key not remembered. -/
import Derived.Test.YbulkdpsgW8b
import Derived.Deep.DeepCutAuto
namespace Go.Proofs.Ybulkdpsg
open Go Go.RowKit Go.Proofs Go.Lib
set_option linter.unusedVariables false
set_option linter.unusedSimpArgs false

theorem frT_drew (own : Nat → Nat) (T : Nat → Prop) (w : World) : FrT own T w w.drew := ⟨rfl, rfl, rfl, Nat.le_refl _, fun _ _ _ => rfl⟩
theorem ListOk.drew {w : World} {I : Ids} {nW : Nat} {cm : Nat → Value} {b : Bool} {v : Nat} {es : List (Nat × Nat)} (h : ListOk w I nW cm b v es) : ListOk w.drew I nW cm b v es := by
  unfold ListOk at h ⊢
  split at h
  · rename_i hb; rw [if_pos hb]; exact dl_drewN h 1
  · rename_i hb; rw [if_neg hb]; exact ⟨⟨h.1.row, h.1.fit, h.1.nx⟩, h.2⟩
theorem P7.drewN {own own' : Nat → Nat} {w w' : World} {base nW nK sz : Nat} {pen : Int} {I I' : Ids} {S S' : WSt} {v k : Nat} (h : P7 own own' w w' base nW nK sz pen I I' S S' v k) (q : Nat) : P7 own own' w (w'.drewN q) base nW nK sz pen I I' S S' v k :=
  ⟨h.ws.kept (T := fun _ => False) ⟨rfl, rfl, rfl, Nat.le_refl _, fun _ _ _ => rfl⟩ (OwnUp.refl _ _) (fun x hx => hx.elim), h.free, h.bw, h.bf, h.bm, h.mp, h.bh, h.el, h.ini, h.oth, h.up, ⟨h.fr.os, h.fr.tape, h.fr.output, h.fr.size, h.fr.block⟩⟩
theorem stok_of_p7 {own own' : Nat → Nat} {w w' : World} {base nW nK sz : Nat} {pen : Int} {I I' : Ids} {S S' : WSt} {v k : Nat} (h0 : WS own w base nW nK sz sz pen I S) (hv : v < nW) (h : P7 own own' w w' base nW nK sz pen I I' S S' v k) (hs0 : 0 < sz) (hnk : k ∉ (S.els v).map Prod.snd) (hlen : (S.els v).length + 1 ≤ sz) : StOk own own' w w' base nW nK sz sz pen I I' S S' v k :=
  ⟨h.ws.lmUp (fun u hu => by
      by_cases e : u = v
      · subst e; rw [h.el]; simpa using hlen
      · rw [h.oth u e]; exact h0.ln u hu) (by omega), h.free, h.bw, h.bf, by
    rw [h.el, List.map_cons]
    unfold memT
    rw [if_neg hnk, if_neg (by omega), List.take_of_length_le (by simp; omega)], h.oth, h.up, h.fr⟩
theorem ta3 (x : Value) (w : World) : (Instr.typeAssert (.iface 3 x) 20 3 false).run Yba.prog w = .ok x w := by kernel_rfl
theorem p7_len {own own' : Nat → Nat} {w w' : World} {base nW nK sz : Nat} {pen : Int} {I I' : Ids} {S S' : WSt} {v k : Nat} (h : P7 own own' w w' base nW nK sz pen I I' S S' v k) (hv : v < nW) : w'.cell? ⟨I.bm, v * 6 + 4, none⟩ = some (.int .i64 (((S.els v).length + 1 : Nat) : Int)) ∧ w'.cell? ⟨I.bw, 3, none⟩ = some (.int .i64 (sz : Int)) := by
  obtain ⟨cm, hcm, hl⟩ := h.ws.rm
  have hD := (hl v hv).1
  unfold ListOk at hD
  rw [h.ini, if_pos rfl] at hD
  have hc := hD.row.cell (i := v * 6 + 4) (by have := hD.fit; omega)
  rw [hD.ln, h.bm, h.el] at hc
  have h3 := (ws_row h.ws).2.2.2.1
  rw [h.bw] at h3
  exact ⟨hc, h3⟩
theorem info3 : (Yba.prog.info? 3).map (fun i => (i.zero, i.size, i.bytes)) = some (some (.int .i64 0), 1, 8) := by kernel_rfl
set_option maxRecDepth 100000 in
set_option maxHeartbeats 2000000 in
theorem start_cold0 {own : Nat → Nat} {w : World} {base nW nK sz : Nat} {pen : Int} {I : Ids} {S : WSt} (h : WS own w base nW nK sz sz pen I S) {v k : Nat} (hv : v < nW) (hk : k < nK) (hfree : 0 < S.free v) (hw : k ∉ (S.els v).map Prod.snd) (hs0 : sz = 0) :
    Calls Yba.prog 38 #[pn I.bw 0, .int .i64 (v : Int), .int .i64 (k : Int)] w fun e w' => e = .returned (.bool true) ∧ ∃ own' I' S', Started own own' w w' base nW nK sz pen I I' S S' v k := by
  have HH : Hid (WS own w base nW nK sz sz pen I S) := h
  have hnW : nW ≤ 4 := h.b2.2
  have hnK : nK ≤ 5 := h.b3
  have hsz : sz ≤ 3 := h.b1.1
  obtain ⟨_, _, w2c, w3c, w4c, _⟩ := ws_row h
  obtain ⟨cm, hcm, hl⟩ := h.rm
  have cmp : w.cell? ⟨I.bm, v * 6 + 5, none⟩ = some (.map (some (I.mp v))) := by rw [hcm.cell (by omega), (hl v hv).2]
  have HCM : Hid (w.rowIs I.bm 120 (nW * 6) cm) := hcm
  have HL : Hid (∀ v, v < nW → ListOk w I nW cm (S.ini v) v (S.els v) ∧ cm (v * 6 + 5) = .map (some (I.mp v))) := hl
  have zv : (v : Int) < (nW : Int) := by omega
  have hlook := (h.mapf v hv).look under112 (zero113 w) (show k < 10000 by omega)
  rw [elOf_none hw] at hlook
  have hs1 : Hid (StOk own own w w base nW nK sz sz pen I I S S v k) := ⟨h, rfl, rfl, rfl, by unfold memT; rw [if_neg hw, if_pos hs0], fun _ _ => rfl, OwnUp.refl _ _, FrT.refl _ _ _⟩
  clear h hl hcm hw
  subst hs0
  go_enter Yba.func38, Yba.ntmps38
  go_upto_region 15 with fail
  obtain ⟨I1, hI1⟩ : ∃ I1, I1 = I := ⟨_, rfl⟩
  obtain ⟨S1, hS1⟩ : ∃ S1, S1 = S := ⟨_, rfl⟩
  have HS : Hid (StOk own own w w base nW nK 0 0 pen I I1 S S1 v k) := by rw [hI1, hS1]; exact hs1
  clear hI1 hS1 hs1
  have hbw := HS.out.bw
  have hbf := HS.out.bf
  have c0 : w.cell? ⟨I.bw, 0, none⟩ = some (.slice (some ⟨I.bf, 0, none⟩) nW nW) := by have := (ws_row HS.out.ws).1; rw [hbw, hbf] at this; exact this
  have c1 : w.cell? ⟨I.bw, 1, none⟩ = some (.int .i64 (opn S.free nW : Int)) := by have := (ws_row HS.out.ws).2.1; rw [hbw, HS.out.free] at this; exact this
  have f1 : w.frozen? ⟨I.bw, 1, none⟩ = false := by have := HS.out.ws.rw_.frozen 1; rw [hbw] at this; exact this
  have cv : w.cell? ⟨I.bf, v, none⟩ = some (.int .i64 (S.free v : Int)) := by have := HS.out.ws.rf.cell hv; rw [hbf, HS.out.free] at this; exact this
  have fv : w.frozen? ⟨I.bf, v, none⟩ = false := by have := HS.out.ws.rf.frozen v; rw [hbf] at this; exact this
  have nwf : I.bw ≠ I.bf := fun e => by have h1 := HS.out.ws.ow; have h2 := HS.out.ws.of_; rw [hbw, e] at h1; rw [hbf] at h2; omega
  have nfw : I.bf ≠ I.bw := Ne.symm nwf
  have hop : opn S.free nW ≤ 4 := by have := opn_le S.free nW; omega
  have hop0 : 0 < opn S.free nW := (opn_pos _ _).2 ⟨v, hv, by omega⟩
  have hfb : S.free v ≤ 3 := by have := HS.out.ws.b4 v hv; rw [HS.out.free] at this; exact this
  obtain ⟨W1, hW1⟩ : ∃ X, w.setCell ⟨I.bf, v, none⟩ (.int .i64 ((S.free v : Int) - 1)) = X := ⟨_, rfl⟩
  have d0 : W1.cell? ⟨I.bw, 0, none⟩ = some (.slice (some ⟨I.bf, 0, none⟩) nW nW) := by rw [← hW1, World.cell?_setCell_other _ _ _ _ (by simp [nfw])]; exact c0
  have d1 : W1.cell? ⟨I.bw, 1, none⟩ = some (.int .i64 (opn S.free nW : Int)) := by rw [← hW1, World.cell?_setCell_other _ _ _ _ (by simp [nfw])]; exact c1
  have dv : W1.cell? ⟨I.bf, v, none⟩ = some (.int .i64 ((S.free v : Int) - 1)) := by rw [← hW1]; exact World.cell?_setCell_same _ _ _ cv
  have g1 : W1.frozen? ⟨I.bw, 1, none⟩ = false := by rw [← hW1, World.frozen?_setCell]; exact f1
  have rf1 : Hid (W1.rowIs I.bf 3 nW (fun u => .int .i64 (setN S.free v (S.free v - 1) u : Int))) := by
    show W1.rowIs _ _ _ _
    have hr := HS.out.ws.rf
    rw [hbf, HS.out.free] at hr
    rw [← hW1]; refine (hr.set v _).congr fun u hu => ?_
    unfold setN; by_cases e : u = v
    · rw [if_pos e, if_pos e]; congr 1; omega
    · rw [if_neg e, if_neg e]
  have rw1 : Hid (W1.rowIs I.bw 111 6 (wsF I1 nW nK 0 pen (opn S.free nW))) := by
    show W1.rowIs _ _ _ _
    have hr := HS.out.ws.rw_
    rw [hbw, HS.out.free] at hr
    rw [← hW1]; exact hr.setOther nwf _
  have fr1 : Hid (Fr [I.bf, I.bw] w W1) := by show Fr _ _ _; rw [← hW1]; exact Fr.setCell w _ _ (by simp)
  have hopn : Hid (opn (setN S.free v (S.free v - 1)) nW + (if S.free v = 1 then 1 else 0) = opn S.free nW) := opn_dec S.free v nW hv hfree
  by_cases hz : S.free v = 1
  · have he : (((S.free v : Int) - 1) == 0) = true := by rw [hz]; rfl
    have HO : Hid (opn (setN S.free v (S.free v - 1)) nW = opn S.free nW - 1) := by have := hopn.out; rw [if_pos hz] at this; show _ = _; omega
    have HZ : Hid (S.free v = 1) := hz
    clear hz hopn hbw hbf
    go_wp2
    go_ret
    refine ⟨rfl, started_of HS.out hfree hv (fr1.out.trans (Fr.setCell _ _ _ (by simp))) ?_ (rf1.out.setOther nfw _)⟩
    refine (rw1.out.set 1 _).congr (six (by simp [wsF]) ?_ (by simp [wsF]) (by simp [wsF]) (by simp [wsF]) (by simp [wsF]))
    simp [wsF, HO.out]; omega
  · have he : (((S.free v : Int) - 1) == 0) = false := beq_false_of_ne (by omega)
    have HO : Hid (opn (setN S.free v (S.free v - 1)) nW = opn S.free nW) := by have := hopn.out; rw [if_neg hz] at this; show _ = _; omega
    clear hz hopn hbw hbf
    go_wp2
    go_ret
    refine ⟨rfl, started_of HS.out hfree hv fr1.out ?_ rf1.out⟩
    rw [HO.out]; exact rw1.out
set_option maxRecDepth 100000 in
set_option maxHeartbeats 4000000 in
theorem start_cold {own : Nat → Nat} {w : World} {base nW nK sz : Nat} {pen : Int} {I : Ids} {S : WSt} (h : WS own w base nW nK sz sz pen I S) {v k : Nat} (hv : v < nW) (hk : k < nK) (hfree : 0 < S.free v) (hbase : base ≤ w.heap.size) (hw : k ∉ (S.els v).map Prod.snd) (hs0 : 0 < sz) :
    Calls Yba.prog 38 #[pn I.bw 0, .int .i64 (v : Int), .int .i64 (k : Int)] w fun e w' => e = .returned (.bool true) ∧ ∃ own' I' S', Started own own' w w' base nW nK sz pen I I' S S' v k := by
  have HH : Hid (WS own w base nW nK sz sz pen I S) := h
  have hnW : nW ≤ 4 := h.b2.2
  have hnK : nK ≤ 5 := h.b3
  have hsz : sz ≤ 3 := h.b1.1
  obtain ⟨_, _, w2c, w3c, w4c, _⟩ := ws_row h
  obtain ⟨cm, hcm, hl⟩ := h.rm
  have cmp : w.cell? ⟨I.bm, v * 6 + 5, none⟩ = some (.map (some (I.mp v))) := by rw [hcm.cell (by omega), (hl v hv).2]
  have HCM : Hid (w.rowIs I.bm 120 (nW * 6) cm) := hcm
  have HL : Hid (∀ v, v < nW → ListOk w I nW cm (S.ini v) v (S.els v) ∧ cm (v * 6 + 5) = .map (some (I.mp v))) := hl
  have zv : (v : Int) < (nW : Int) := by omega
  have mixed := mixedYba
  have hlook := (h.mapf v hv).look under112 (zero113 w) (show k < 10000 by omega)
  rw [elOf_none hw] at hlook
  have hsz0 : (sz : Int) > 0 := by omega
  have cmpd : w.drew.cell? ⟨I.bm, v * 6 + 5, none⟩ = some (.map (some (I.mp v))) := cmp
  have hd : WS own w.drew base nW nK sz sz pen I S := h.kept (T := fun _ => False) (frT_drew _ _ _) (OwnUp.refl _ _) (fun x hx => hx.elim)
  have hpush := ws_push (k := k) hd hv (cm := cm) hcm (fun u hu => ⟨(hl u hu).1.drew, (hl u hu).2⟩)
  have HPUT : Hid (∀ w1 cm', Dl w1 I.bm (v * 6) (nW * 6) cm' ((w.heap.size, k) :: S.els v) → CmKeep (v * 6) cm cm' → Fr (I.bm :: (S.els v).map Prod.fst) w w1 → w1.cell? ⟨I.bm, v * 6 + 5, none⟩ = some (.map (some (I.mp v))) ∧ ∃ w2, (Instr.mapUpdate 112 (.map (some (I.mp v))) (.int .i64 (k : Int)) (pn w.heap.size 0)).run Yba.prog w1 = .ok () w2 ∧ P6 own w w2 nW I S v k cm cm') := fun w1 cm' hD hkp hfr => ⟨by rw [hD.row.cell (by omega), hkp _ (by omega) (by omega) (by omega), (hl v hv).2], ws_put h hv hk hD hkp hfr⟩
  have HW : Hid (k ∉ (S.els v).map Prod.snd) := hw
  clear h hl hcm hw hd
  go_enter Yba.func38, Yba.ntmps38
  go_upto_region 6 with fail
  go_cut [] (fun wx => ∃ cm', Hid (P6 own w wx nW I S v k cm cm'))
  case first =>
    go_region_with (first | (go_at_call 49; refine hpush.mono ?_; clear hpush; rintro x w1 ⟨rfl, cm', hD, hkp, hfr⟩; obtain ⟨cmp1, w2, hrun, hP⟩ := HPUT.out w1 cm' hD hkp (fr_of_drew hfr); have HP : Hid (P6 own w w2 nW I S v k cm cm') := hP; clear hP hD hkp hfr))
    all_goals
      go_wp2_with fail
      go_meet
      exact ⟨cm', HP⟩
  case rest =>
  obtain ⟨cm', HP⟩ := hcut
  obtain ⟨w2, hw2⟩ : ∃ x, x = wc := ⟨wc, rfl⟩
  subst hw2
  have hbw : own I.bw = 1 := HH.out.ow
  have c4 : w2.cell? ⟨I.bw, 4, none⟩ = some (.slice (some ⟨I.bh, 0, none⟩) nK nK) := (HP.out.fr.row HH.out.rw_ (by rw [HH.out.ow]; omega)).cell (i := 4) (by omega)
  have hrh : Hid (w2.rowIs I.bh 48 nK I.hv) := HP.out.fr.row HH.out.rh (by rw [HH.out.oh]; omega)
  have ck : w2.cell? ⟨I.bh, k, none⟩ = some (I.hv k) := hrh.out.cell hk
  have fk : w2.frozen? ⟨I.bh, k, none⟩ = false := hrh.out.frozen k
  have zk : (k : Int) < (nK : Int) := by omega
  have HHO : Hid (w2.ownsRow base 3 1 (I.hv k) (S.hold k).length ((S.hold k).map fun (v : Nat) => .int .i64 (v : Int))) := HP.out.fr.own (HH.out.ho k hk) (fun b hb => by rw [HH.out.ohv k hk b hb]; omega)
  have hlen : (S.hold k).length ≤ 4 := by
    have := php nW (S.hold k) (HH.out.hs k hk).1 (fun u hu => ((HH.out.hs k hk).2 u).1 hu |>.1)
    omega
  obtain ⟨i0, hi, hz0, hz1, hz2⟩ := info_parts info3
  obtain ⟨n, hn⟩ : ∃ n, n = (S.hold k).length := ⟨_, rfl⟩
  rw [← hn] at HHO hlen
  have HN : Hid (n = (S.hold k).length) := hn
  clear hn
  generalize hxs : ((S.hold k).map fun (v : Nat) => Value.int .i64 (v : Int)) = xs at HHO
  have HXS : Hid (((S.hold k).map fun (v : Nat) => Value.int .i64 (v : Int)) = xs) := hxs
  clear hxs
  generalize hhv : I.hv k = hvk at ck HHO
  have HHV : Hid (I.hv k = hvk) := hhv
  clear hhv
  obtain ⟨W, hW⟩ : ∃ W, (w2.alloc (.cells #[.int .i64 (v : Int)] 3)).drew = W := ⟨_, rfl⟩
  have hWs : Hid (W.heap.size = w2.heap.size + 1) := by show W.heap.size = _; rw [← hW]; simp
  have hWb : W.heap[w2.heap.size]? = some (.cells #[.int .i64 (v : Int)] 3 (0, 0)) := by rw [← hW]; exact Deep.blk_alloc_new w2 _
  have hWo : Hid (∀ k, k < w2.heap.size → W.heap[k]? = w2.heap[k]?) := fun k hk => by rw [← hW]; exact Deep.blk_alloc_lt w2 _ k hk
  have HWO : Hid (W.ownsRow base 3 1 hvk n xs) := by show W.ownsRow _ _ _ _ _ _; rw [← hW]; exact HHO.out.alloc _
  have HNW : Hid (∀ j u, [Value.int .i64 (v : Int)][j]? = some u → W.cell? ((⟨w2.heap.size, 0, none⟩ : Addr).add j) = some u) := World.news_of_block hWb
  have HWW : Hid (W.os = w2.os ∧ W.tape = w2.tape ∧ W.output = w2.output) := ⟨by rw [← hW]; rfl, by rw [← hW]; rfl, by rw [← hW]; rfl⟩
  have hbsz : Hid (base ≤ W.heap.size) := by have := HP.out.fr.size; have := hWs.out; show base ≤ W.heap.size; omega
  have hbhl : I.bh < w2.heap.size := hrh.out.lt
  have hbwl : I.bw < w2.heap.size := by have := World.block_lt_of_cell? w2 _ c4; simpa using this
  have c4W : W.cell? ⟨I.bw, 4, none⟩ = some (.slice (some ⟨I.bh, 0, none⟩) nK nK) := (World.cell?_of_block (hWo.out _ hbwl)).trans c4
  have ckW : W.cell? ⟨I.bh, k, none⟩ = some hvk := (World.cell?_of_block (hWo.out _ hbhl)).trans ck
  have fkW : W.frozen? ⟨I.bh, k, none⟩ = false := (World.frozen?_of_block (hWo.out _ hbhl)).trans fk
  have hnb : Hid (∀ b, hvk.ownBlock = some b → b ≠ I.bh ∧ b ≠ I.bw) := fun b hb => by
    have := HH.out.ohv k hk b (by rw [HHV.out]; exact hb)
    exact ⟨fun e => by rw [e, HH.out.oh] at this; omega, fun e => by rw [e, HH.out.ow] at this; omega⟩
  clear hWb
  go_upto_region 7 with fail
  go_cut [] (fun wx => ∃ own' I' S', Hid (P7 own own' w wx base nW nK sz pen I I' S S' v k))
  case first =>
    go_region_law (refine step_append_lies W rfl (.tmp 63) (.tmp 65) 48 rfl base 3 i0 _ 1 8 Yba.underlying48 hi hz0 hz1 hz2 (by rfl) (by decide) hvk n xs (by simp [Act.eval, Act.put]) HWO.out ⟨w2.heap.size, 0, none⟩ 1 1 [.int .i64 (v : Int)] (by simp [Act.eval, Act.put]) rfl HNW.out (by intro u hu; simp at hu; subst hu; rfl) (by decide) (by simp [maxLen]; omega) (by omega) hbsz.out (w2.heap.size + 1) hWs.out ?_; intro g cap w3 hown' hgrow hat hlt; have c43 : w3.cell? ⟨I.bw, 4, none⟩ = some (.slice (some ⟨I.bh, 0, none⟩) nK nK) := hgrow.cell c4W (fun e => (hnb.out _ e.symm).2 rfl); have ck3 : w3.cell? ⟨I.bh, k, none⟩ = some hvk := hgrow.cell ckW (fun e => (hnb.out _ e.symm).1 rfl); have fk3 : w3.frozen? ⟨I.bh, k, none⟩ = false := (hgrow.frozen_far ⟨I.bh, k, none⟩ (by show I.bh < W.heap.size; have := hWs.out; omega) (fun e => (hnb.out _ e.symm).1 rfl)).trans fkW; have HF : Hid (w3.ownsRow base 3 1 (.slice (some ⟨g, 0, none⟩) (n + 1) cap) (n + 1) (xs ++ [.int .i64 (v : Int)]) ∧ W.grownBy w3 hvk.ownBlock ∧ (hvk.ownBlock = some g ∨ g = w2.heap.size + 1)) := ⟨hown', hgrow, hat⟩; clear hown' hgrow hat hlt)
    all_goals
      go_wp2_with fail
      go_meet
      obtain ⟨hown, hgr, hat⟩ := HF.out
      have hgr2 : w2.grownBy w3 (I.hv k).ownBlock := by
        rw [HHV.out]
        exact ⟨hgr.os.trans HWW.out.1, hgr.tape.trans HWW.out.2.1, hgr.output.trans HWW.out.2.2, by have := hgr.size; have := hWs.out; omega, fun b hb hne => (hgr.block b (by have := hWs.out; omega) hne).trans (hWo.out b hb)⟩
      rw [← HXS.out, HN.out] at hown
      obtain ⟨own', q1, q2, q3⟩ := ws_hold HH.out hv hk HW.out HCM.out HL.out HP.out hown hgr2 (by rw [HHV.out]; rcases hat with h | h; exact Or.inl h; exact Or.inr (by omega))
      rw [HN.out]
      exact ⟨own', _, _, ⟨q1, rfl, rfl, rfl, rfl, rfl, rfl, setL_same _ _ _, setL_same _ _ _, fun u hu => setL_other _ _ hu, q2, q3⟩⟩
  case rest =>
  obtain ⟨own1, I1, S1, HP7⟩ := hcut
  obtain ⟨w4, hw4⟩ : ∃ x, x = wc := ⟨wc, rfl⟩
  subst hw4
  obtain ⟨cl4, cs3⟩ := p7_len HP7.out hv
  obtain ⟨L, hL⟩ : ∃ L, L = (S.els v).length := ⟨_, rfl⟩
  have hLs : L ≤ sz := by rw [hL]; exact HH.out.ln v hv
  rw [← hL] at cl4
  have HLL : Hid (L = (S.els v).length) := hL
  clear hL
  have HLN : Hid (∀ n, Calls Yba.prog 50 #[pn I.bm (v * 6)] (w4.drewN n) fun e w' => e = .returned (.int .i64 ((L + 1 : Nat) : Int)) ∧ w' = w4.drewN n) := fun n => (len50 I.bm (v * 6) _ (w4.drewN n) cl4).mono fun e w' ⟨h1, h2⟩ => ⟨h1, h2.symm⟩
  go_upto_region 8 with fail
  by_cases hfull : L + 1 ≤ sz
  · have hdec : decide ((((L + 1 : Nat) : Int)) > (sz : Int)) = false := decide_eq_false (by omega)
    go_quiet (first | (go_at_call 50; refine Calls.quiet_of_same (HLN.out _)))
    go_upto_region 15 with fail
    obtain ⟨W4, hW4⟩ : ∃ x, x = w4.drewN nq := ⟨_, rfl⟩
    rw [← hW4]
    have HS : Hid (StOk own own1 w W4 base nW nK sz sz pen I I1 S S1 v k) := by rw [hW4]; exact stok_of_p7 HH.out hv (HP7.out.drewN nq) hs0 HW.out (by rw [← HLL.out]; exact hfull)
    clear hW4
    clear HP7 HP hrh HHO c4 ck fk HNW HWO hWs hWo HWW hbsz c4W ckW fkW hnb hW cl4 cs3 HLN
    have hbw := HS.out.bw
    have hbf := HS.out.bf
    have c0 : W4.cell? ⟨I.bw, 0, none⟩ = some (.slice (some ⟨I.bf, 0, none⟩) nW nW) := by have := (ws_row HS.out.ws).1; rw [hbw, hbf] at this; exact this
    have c1 : W4.cell? ⟨I.bw, 1, none⟩ = some (.int .i64 (opn S.free nW : Int)) := by have := (ws_row HS.out.ws).2.1; rw [hbw, HS.out.free] at this; exact this
    have f1 : W4.frozen? ⟨I.bw, 1, none⟩ = false := by have := HS.out.ws.rw_.frozen 1; rw [hbw] at this; exact this
    have cv : W4.cell? ⟨I.bf, v, none⟩ = some (.int .i64 (S.free v : Int)) := by have := HS.out.ws.rf.cell hv; rw [hbf, HS.out.free] at this; exact this
    have fv : W4.frozen? ⟨I.bf, v, none⟩ = false := by have := HS.out.ws.rf.frozen v; rw [hbf] at this; exact this
    have nwf : I.bw ≠ I.bf := fun e => by have h1 := HS.out.ws.ow; have h2 := HS.out.ws.of_; rw [hbw, e] at h1; rw [hbf] at h2; omega
    have nfw : I.bf ≠ I.bw := Ne.symm nwf
    have hop : opn S.free nW ≤ 4 := by have := opn_le S.free nW; omega
    have hop0 : 0 < opn S.free nW := (opn_pos _ _).2 ⟨v, hv, by omega⟩
    have hfb : S.free v ≤ 3 := by have := HS.out.ws.b4 v hv; rw [HS.out.free] at this; exact this
    obtain ⟨W1, hW1⟩ : ∃ X, W4.setCell ⟨I.bf, v, none⟩ (.int .i64 ((S.free v : Int) - 1)) = X := ⟨_, rfl⟩
    have d0 : W1.cell? ⟨I.bw, 0, none⟩ = some (.slice (some ⟨I.bf, 0, none⟩) nW nW) := by rw [← hW1, World.cell?_setCell_other _ _ _ _ (by simp [nfw])]; exact c0
    have d1 : W1.cell? ⟨I.bw, 1, none⟩ = some (.int .i64 (opn S.free nW : Int)) := by rw [← hW1, World.cell?_setCell_other _ _ _ _ (by simp [nfw])]; exact c1
    have dv : W1.cell? ⟨I.bf, v, none⟩ = some (.int .i64 ((S.free v : Int) - 1)) := by rw [← hW1]; exact World.cell?_setCell_same _ _ _ cv
    have g1 : W1.frozen? ⟨I.bw, 1, none⟩ = false := by rw [← hW1, World.frozen?_setCell]; exact f1
    have rf1 : Hid (W1.rowIs I.bf 3 nW (fun u => .int .i64 (setN S.free v (S.free v - 1) u : Int))) := by
      show W1.rowIs _ _ _ _
      have hr := HS.out.ws.rf
      rw [hbf, HS.out.free] at hr
      rw [← hW1]; refine (hr.set v _).congr fun u hu => ?_
      unfold setN; by_cases e : u = v
      · rw [if_pos e, if_pos e]; congr 1; omega
      · rw [if_neg e, if_neg e]
    have rw1 : Hid (W1.rowIs I.bw 111 6 (wsF I1 nW nK sz pen (opn S.free nW))) := by
      show W1.rowIs _ _ _ _
      have hr := HS.out.ws.rw_
      rw [hbw, HS.out.free] at hr
      rw [← hW1]; exact hr.setOther nwf _
    have fr1 : Hid (Fr [I.bf, I.bw] W4 W1) := by show Fr _ _ _; rw [← hW1]; exact Fr.setCell W4 _ _ (by simp)
    have hopn : Hid (opn (setN S.free v (S.free v - 1)) nW + (if S.free v = 1 then 1 else 0) = opn S.free nW) := opn_dec S.free v nW hv hfree
    by_cases hz : S.free v = 1
    · have he : (((S.free v : Int) - 1) == 0) = true := by rw [hz]; rfl
      have HO : Hid (opn (setN S.free v (S.free v - 1)) nW = opn S.free nW - 1) := by have := hopn.out; rw [if_pos hz] at this; show _ = _; omega
      have HZ : Hid (S.free v = 1) := hz
      clear hz hopn hbw hbf
      go_wp2
      go_ret
      refine ⟨rfl, started_of HS.out hfree hv (fr1.out.trans (Fr.setCell _ _ _ (by simp))) ?_ (rf1.out.setOther nfw _)⟩
      refine (rw1.out.set 1 _).congr (six (by simp [wsF]) ?_ (by simp [wsF]) (by simp [wsF]) (by simp [wsF]) (by simp [wsF]))
      simp [wsF, HO.out]; omega
    · have he : (((S.free v : Int) - 1) == 0) = false := beq_false_of_ne (by omega)
      have HO : Hid (opn (setN S.free v (S.free v - 1)) nW = opn S.free nW) := by have := hopn.out; rw [if_neg hz] at this; show _ = _; omega
      clear hz hopn hbw hbf
      go_wp2
      go_ret
      refine ⟨rfl, started_of HS.out hfree hv fr1.out ?_ rf1.out⟩
      rw [HO.out]; exact rw1.out
  · have hfullz : L = sz := by omega
    have hdec : decide ((((L + 1 : Nat) : Int)) > (sz : Int)) = true := decide_eq_true (by omega)
    go_quiet (first | (go_at_call 50; refine Calls.quiet_of_same (HLN.out _)))
    go_upto_region 9 with fail
    obtain ⟨W4, hW4⟩ : ∃ x, x = w4.drewN nq := ⟨_, rfl⟩
    rw [← hW4]
    have HP8 : Hid (P7 own own1 w W4 base nW nK sz pen I I1 S S1 v k) := by rw [hW4]; exact HP7.out.drewN nq
    clear hW4
    clear HP7 HP hrh HHO c4 ck fk HNW HWO hWs hWo HWW hbsz c4W ckW fkW hnb hW cl4 cs3 HLN
    obtain ⟨es, z, FG⟩ := forget_facts HH.out hv HP8.out HW.out hs0 (by rw [← HLL.out]; exact hfullz)
    obtain ⟨cm1, g, n, cap, i, FF⟩ := FG
    have HFF : Hid (FgF own1 W4 base nW nK sz pen I I1 S1 v es z cm1 g n cap i) := FF
    have hrm := FF.rm
    have hbk := FF.bk
    have hmp5 : W4.cell? ⟨I.bm, v * 6 + 5, none⟩ = some (.map (some (I.mp v))) := FF.mp5
    have tA := ta3
    clear FF
    go_cut [10] (fun c wx => c = .int .i64 (z.2 : Int) ∧ ∃ cm2, Hid (Dl wx I.bm (v * 6) (nW * 6) cm2 es ∧ CmKeep (v * 6) cm1 cm2 ∧ Fr (I.bm :: (S1.els v).map Prod.fst) W4 wx))
    case first =>
      go_region_with (first | (go_at_call 52; refine hbk.mono ?_; clear hbk; rintro x w' ⟨rfl, rfl⟩) | (go_at_call 51; refine hrm.mono ?_; clear hrm; rintro x w5 ⟨rfl, cm2, hD, hkp, hfr⟩; have HR : Hid (Dl w5 I.bm (v * 6) (nW * 6) cm2 es ∧ CmKeep (v * 6) cm1 cm2 ∧ Fr (I.bm :: (S1.els v).map Prod.fst) W4 w5) := ⟨hD, hkp, fr_of_drew hfr⟩; clear hD hkp hfr))
      all_goals
        go_wp2_with fail
        go_meet
        exact ⟨rfl, cm2, HR⟩
    case rest =>
    obtain ⟨rfl, cm2, HR⟩ := hcut
    obtain ⟨w5, hw5⟩ : ∃ x, x = wc := ⟨wc, rfl⟩
    subst hw5
    obtain ⟨w6, F6⟩ := forget6 HFF.out hv HR.out.1 HR.out.2.1 HR.out.2.2
    have cmp5 := F6.c5
    have hdel := F6.del
    have c46 := F6.c4
    have cz6 := F6.cz
    have fz6 := F6.fz
    have hidx := F6.idx
    have cl6 := F6.last
    have ci6 := F6.ci
    have fi6 := F6.fi
    have hiz : (i : Int) < (n : Int) := by have := HFF.out.iN; omega
    have hnb : n ≤ 4 := HFF.out.nb
    have hn0 : 0 < n := HFF.out.n0
    have hzk : z.2 < nK := HFF.out.zk
    have hzz : (z.2 : Int) < (nK : Int) := by omega
    obtain ⟨n1, hn1z, hn1e⟩ : ∃ n1 : Nat, (n : Int) - 1 = (n1 : Int) ∧ Hid (n1 = n - 1) := ⟨n - 1, by omega, rfl⟩
    have hn1b : n1 < n := by have := hn1e.out; omega
    have hn1c : n1 ≤ cap := by have := HFF.out.nc; omega
    have HF6 : Hid (Fg6 own1 w5 w6 base nW nK sz pen I I1 S1 v es z g n cap i) := F6
    clear F6
    obtain ⟨lst, hlst⟩ : ∃ l : Int, l = ((S1.hold z.2)[n - 1]! : Nat) := ⟨_, rfl⟩
    rw [← hlst] at cl6
    rw [← hn1e.out] at cl6
    have HLST : Hid (lst = ((S1.hold z.2)[n - 1]! : Nat)) := hlst
    clear hlst
    obtain ⟨W7, hW7⟩ : ∃ X, w6.setCell ⟨g, i, none⟩ (.int .i64 lst) = X := ⟨_, rfl⟩
    have c47 : W7.cell? ⟨I.bw, 4, none⟩ = some (.slice (some ⟨I.bh, 0, none⟩) nK nK) := by rw [← hW7, World.cell?_setCell_other _ _ _ _ (by simp [HFF.out.gbw])]; exact c46
    have cz7 : W7.cell? ⟨I.bh, z.2, none⟩ = some (.slice (some ⟨g, 0, none⟩) n cap) := by rw [← hW7, World.cell?_setCell_other _ _ _ _ (by simp [HFF.out.gbh])]; exact cz6
    have fz7 : W7.frozen? ⟨I.bh, z.2, none⟩ = false := by rw [← hW7, World.frozen?_setCell]; exact fz6
    obtain ⟨W8, hW8⟩ : ∃ X, W7.setCell ⟨I.bh, z.2, none⟩ (.slice (some ⟨g, 0, none⟩) n1 cap) = X := ⟨_, rfl⟩
    have HW8 : Hid (W8 = (w6.setCell ⟨g, i, none⟩ (.int .i64 (((S1.hold z.2)[n - 1]! : Nat) : Int))).setCell ⟨I.bh, z.2, none⟩ (slN g (n - 1) cap)) := by show _ = _; rw [← hW8, ← hW7, HLST.out, hn1e.out]; rfl
    go_wp2_with (first | (go_at_call 53; refine hidx.mono ?_; clear hidx; rintro x w' ⟨rfl, rfl⟩))
    go_big_region_o
    all_goals go_upto_region 15 with fail
    obtain ⟨I2, S2, hst⟩ := stok_forget hv HP8.out HFF.out HR.out.1 HR.out.2.1 HR.out.2.2 HF6.out HW8.out HW.out hs0
    obtain ⟨W9, hW9⟩ : ∃ x, x = W8.drew := ⟨_, rfl⟩
    rw [← hW9]
    have HS : Hid (StOk own own1 w W9 base nW nK sz sz pen I I2 S S2 v k) := by rw [hW9]; exact hst
    clear hst hW9 HW8 HF6 HR HFF HP8 hW8 hW7 cz7 c47 fz7 cl6 ci6 fi6 fz6 cz6 c46 hdel cmp5 hmp5
    have hbw := HS.out.bw
    have hbf := HS.out.bf
    have c0 : W9.cell? ⟨I.bw, 0, none⟩ = some (.slice (some ⟨I.bf, 0, none⟩) nW nW) := by have := (ws_row HS.out.ws).1; rw [hbw, hbf] at this; exact this
    have c1 : W9.cell? ⟨I.bw, 1, none⟩ = some (.int .i64 (opn S.free nW : Int)) := by have := (ws_row HS.out.ws).2.1; rw [hbw, HS.out.free] at this; exact this
    have f1 : W9.frozen? ⟨I.bw, 1, none⟩ = false := by have := HS.out.ws.rw_.frozen 1; rw [hbw] at this; exact this
    have cv : W9.cell? ⟨I.bf, v, none⟩ = some (.int .i64 (S.free v : Int)) := by have := HS.out.ws.rf.cell hv; rw [hbf, HS.out.free] at this; exact this
    have fv : W9.frozen? ⟨I.bf, v, none⟩ = false := by have := HS.out.ws.rf.frozen v; rw [hbf] at this; exact this
    have nwf : I.bw ≠ I.bf := fun e => by have h1 := HS.out.ws.ow; have h2 := HS.out.ws.of_; rw [hbw, e] at h1; rw [hbf] at h2; omega
    have nfw : I.bf ≠ I.bw := Ne.symm nwf
    have hop : opn S.free nW ≤ 4 := by have := opn_le S.free nW; omega
    have hop0 : 0 < opn S.free nW := (opn_pos _ _).2 ⟨v, hv, by omega⟩
    have hfb : S.free v ≤ 3 := by have := HS.out.ws.b4 v hv; rw [HS.out.free] at this; exact this
    obtain ⟨W1, hW1⟩ : ∃ X, W9.setCell ⟨I.bf, v, none⟩ (.int .i64 ((S.free v : Int) - 1)) = X := ⟨_, rfl⟩
    have d0 : W1.cell? ⟨I.bw, 0, none⟩ = some (.slice (some ⟨I.bf, 0, none⟩) nW nW) := by rw [← hW1, World.cell?_setCell_other _ _ _ _ (by simp [nfw])]; exact c0
    have d1 : W1.cell? ⟨I.bw, 1, none⟩ = some (.int .i64 (opn S.free nW : Int)) := by rw [← hW1, World.cell?_setCell_other _ _ _ _ (by simp [nfw])]; exact c1
    have dv : W1.cell? ⟨I.bf, v, none⟩ = some (.int .i64 ((S.free v : Int) - 1)) := by rw [← hW1]; exact World.cell?_setCell_same _ _ _ cv
    have g1 : W1.frozen? ⟨I.bw, 1, none⟩ = false := by rw [← hW1, World.frozen?_setCell]; exact f1
    have rf1 : Hid (W1.rowIs I.bf 3 nW (fun u => .int .i64 (setN S.free v (S.free v - 1) u : Int))) := by
      show W1.rowIs _ _ _ _
      have hr := HS.out.ws.rf
      rw [hbf, HS.out.free] at hr
      rw [← hW1]; refine (hr.set v _).congr fun u hu => ?_
      unfold setN; by_cases e : u = v
      · rw [if_pos e, if_pos e]; congr 1; omega
      · rw [if_neg e, if_neg e]
    have rw1 : Hid (W1.rowIs I.bw 111 6 (wsF I2 nW nK sz pen (opn S.free nW))) := by
      show W1.rowIs _ _ _ _
      have hr := HS.out.ws.rw_
      rw [hbw, HS.out.free] at hr
      rw [← hW1]; exact hr.setOther nwf _
    have fr1 : Hid (Fr [I.bf, I.bw] W9 W1) := by show Fr _ _ _; rw [← hW1]; exact Fr.setCell W9 _ _ (by simp)
    have hopn : Hid (opn (setN S.free v (S.free v - 1)) nW + (if S.free v = 1 then 1 else 0) = opn S.free nW) := opn_dec S.free v nW hv hfree
    by_cases hz : S.free v = 1
    · have he : (((S.free v : Int) - 1) == 0) = true := by rw [hz]; rfl
      have HO : Hid (opn (setN S.free v (S.free v - 1)) nW = opn S.free nW - 1) := by have := hopn.out; rw [if_pos hz] at this; show _ = _; omega
      have HZ : Hid (S.free v = 1) := hz
      clear hz hopn hbw hbf
      go_wp2
      go_ret
      refine ⟨rfl, started_of HS.out hfree hv (fr1.out.trans (Fr.setCell _ _ _ (by simp))) ?_ (rf1.out.setOther nfw _)⟩
      refine (rw1.out.set 1 _).congr (six (by simp [wsF]) ?_ (by simp [wsF]) (by simp [wsF]) (by simp [wsF]) (by simp [wsF]))
      simp [wsF, HO.out]; omega
    · have he : (((S.free v : Int) - 1) == 0) = false := beq_false_of_ne (by omega)
      have HO : Hid (opn (setN S.free v (S.free v - 1)) nW = opn S.free nW) := by have := hopn.out; rw [if_neg hz] at this; show _ = _; omega
      clear hz hopn hbw hbf
      go_wp2
      go_ret
      refine ⟨rfl, started_of HS.out hfree hv fr1.out ?_ rf1.out⟩
      rw [HO.out]; exact rw1.out
end Go.Proofs.Ybulkdpsg

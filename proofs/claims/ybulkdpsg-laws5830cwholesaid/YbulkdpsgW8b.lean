/- S5830C: (*workers).start: what the forgetting reads. -/
import Derived.Test.YbulkdpsgW8
namespace Go.Proofs.Ybulkdpsg
open Go Go.RowKit Go.Proofs Go.Lib
set_option linter.unusedVariables false
set_option linter.unusedSimpArgs false
theorem fr_of_drew {S : List Nat} {w w' : World} (h : Fr S w.drew w') : Fr S w w' := ⟨h.os, h.tape, h.output, h.size, h.block⟩
/-- Behind the holders' append. -/
structure P7 (own own' : Nat → Nat) (w w' : World) (base nW nK sz : Nat) (pen : Int) (I I' : Ids) (S S' : WSt) (v k : Nat) : Prop where
  ws : WS own' w' base nW nK sz (sz + 1) pen I' S'
  free : S'.free = S.free
  bw : I'.bw = I.bw
  bf : I'.bf = I.bf
  bm : I'.bm = I.bm
  mp : I'.mp = I.mp
  bh : I'.bh = I.bh
  el : S'.els v = (w.heap.size, k) :: S.els v
  ini : S'.ini v = true
  oth : ∀ u, u ≠ v → S'.els u = S.els u
  up : OwnUp w own own'
  fr : FrT own (fun x => 1 ≤ x ∧ x < 40) w w'
/-- What is told ahead of 'forgot := m.recent.Remove(m.recent.Back()).(int)'. -/
structure FgF (own1 : Nat → Nat) (W : World) (base nW nK sz : Nat) (pen : Int) (I I1 : Ids) (S1 : WSt) (v : Nat) (es : List (Nat × Nat)) (z : Nat × Nat) (cm1 : Nat → Value) (g n cap i : Nat) : Prop where
  ws : WS own1 W base nW nK sz (sz + 1) pen I1 S1
  el : S1.els v = es ++ [z]
  esl : es.length = sz
  oth : ∀ u, u < nW → u ≠ v → (S1.els u).length ≤ sz
  bw : I1.bw = I.bw
  bm : I1.bm = I.bm
  mp : I1.mp = I.mp
  bh : I1.bh = I.bh
  hcm : W.rowIs I1.bm 120 (nW * 6) cm1
  hl : ∀ v, v < nW → ListOk W I1 nW cm1 (S1.ini v) v (S1.els v) ∧ cm1 (v * 6 + 5) = .map (some (I1.mp v))
  hv : I1.hv z.2 = slN g n cap
  nL : (S1.hold z.2).length = n
  n0 : 0 < n
  nb : n ≤ 4
  nc : n ≤ cap
  iN : i < n
  iv : (S1.hold z.2)[i]? = some v
  zk : z.2 < nK
  gbh : g ≠ I.bh
  gbw : g ≠ I.bw
  og : own1 g = 30 + z.2
  rm : Calls Yba.prog 51 #[pn I.bm (v * 6), pn z.1 0] W.drew fun x w' => x = .returned (.iface 3 (.int .i64 (z.2 : Int))) ∧ ∃ cm', Dl w' I.bm (v * 6) (nW * 6) cm' es ∧ CmKeep (v * 6) cm1 cm' ∧ Fr (I.bm :: (S1.els v).map Prod.fst) W.drew w'
  bk : Calls Yba.prog 52 #[pn I.bm (v * 6)] W.drew fun e w' => e = .returned (pn z.1 0) ∧ W.drew = w'
  mp5 : W.cell? ⟨I.bm, v * 6 + 5, none⟩ = some (.map (some (I.mp v)))
theorem forget_facts {own own1 : Nat → Nat} {w W : World} {base nW nK sz : Nat} {pen : Int} {I I1 : Ids} {S S1 : WSt} {v k : Nat} (h0 : WS own w base nW nK sz sz pen I S) (hv : v < nW) (P : P7 own own1 w W base nW nK sz pen I I1 S S1 v k) (hnk : k ∉ (S.els v).map Prod.snd) (hs0 : 0 < sz) (hL : (S.els v).length = sz) :
    ∃ es z cm1 g n cap i, FgF own1 W base nW nK sz pen I I1 S1 v es z cm1 g n cap i := by
  have hne : S1.els v ≠ [] := by rw [P.el]; simp
  obtain ⟨es, z, hes⟩ : ∃ es z, S1.els v = es ++ [z] := ⟨_, _, (List.dropLast_concat_getLast hne).symm⟩
  have hlen : es.length = sz := by
    have := congrArg List.length hes
    rw [P.el] at this
    simp at this; omega
  obtain ⟨cm1, hcm, hl⟩ := P.ws.rm
  have hzm : z ∈ S1.els v := by rw [hes]; simp
  have hzk : z.2 < nK := P.ws.kl v hv z hzm
  have hvh : v ∈ S1.hold z.2 := ((P.ws.hs z.2 hzk).2 v).2 ⟨hv, List.mem_map.2 ⟨z, hzm, rfl⟩⟩
  obtain ⟨i, hi⟩ := List.mem_iff_getElem?.1 hvh
  have hiN : i < (S1.hold z.2).length := (List.getElem?_eq_some_iff.1 hi).1
  have hn4 : (S1.hold z.2).length ≤ 4 := by
    have := php nW (S1.hold z.2) (P.ws.hs z.2 hzk).1 (fun u hu => (((P.ws.hs z.2 hzk).2 u).1 hu).1)
    have := P.ws.b2; omega
  obtain ⟨g, cap, hgv, _, _⟩ := (P.ws.ho z.2 hzk).form (by omega)
  have hown := P.ws.ho z.2 hzk
  rw [hgv] at hown
  have hnc : (S1.hold z.2).length ≤ cap := by
    rcases hown.2 with ⟨h1, _⟩ | ⟨g', cap', cur, hv', hb, hg, hc, _⟩
    · cases h1
    · simp only [Value.slice.injEq, Option.some.injEq, Addr.mk.injEq, and_true, true_and] at hv'
      obtain ⟨rfl, rfl⟩ := hv'; exact hc
  have og : own1 g = 30 + z.2 := P.ws.ohv z.2 hzk g (by rw [hgv]; rfl)
  have hD := (hl v hv).1
  unfold ListOk at hD
  rw [P.ini, if_pos rfl, hes, P.bm] at hD
  have hA := apart_of P.ws hv
  rw [hes, P.bm] at hA
  have hb1 := P.ws.b1
  have hesn : es ≠ [] := fun e => by rw [e] at hlen; simp at hlen; omega
  have hfit := hD.fit
  refine ⟨es, z, cm1, g, _, cap, i, ⟨P.ws, hes, hlen, fun u hu hne => by rw [P.oth u hne]; exact h0.ln u hu, P.bw, P.bm, P.mp, P.bh, hcm, hl, hgv, rfl, by omega, hn4, hnc, hiN, hi, hzk, fun e => ?_, fun e => ?_, og, ?_, ?_, ?_⟩⟩
  · have := P.ws.oh; rw [P.bh, ← e, og] at this; omega
  · have := P.ws.ow; rw [P.bw, ← e, og] at this; omega
  · rw [hes]
    exact rmb I.bm (v * 6) (nW * 6) cm1 W.drew es z hesn (by omega) (dl_drewN hD 1) hA
  · have c4 := hD.row.cell (i := v * 6 + 4) (by omega)
    rw [hD.ln] at c4
    have c1 := hD.row.cell (i := v * 6 + 1) (by omega)
    rw [hD.pv, ltP_last] at c1
    exact back52 I.bm (v * 6) _ _ W.drew c4 (beq_false_of_ne (by simp; omega)) c1
  · have c5 := hcm.cell (i := v * 6 + 5) (by have := P.ws.b2; omega)
    rw [(hl v hv).2, P.bm, P.mp] at c5; exact c5
/-- What is told behind it. -/
structure Fg6 (own1 : Nat → Nat) (w5 w6 : World) (base nW nK sz : Nat) (pen : Int) (I I1 : Ids) (S1 : WSt) (v : Nat) (es : List (Nat × Nat)) (z : Nat × Nat) (g n cap i : Nat) : Prop where
  c5 : w5.cell? ⟨I.bm, v * 6 + 5, none⟩ = some (.map (some (I.mp v)))
  del : (Builtin.delete_ #[112, 3] 0 #[.map (some (I.mp v)), .int .i64 (z.2 : Int)]).run Yba.prog w5 = .ok (.tuple #[]) w6
  map : MapF w6 (I.mp v) 10000 (fun j => if j = z.2 then none else elOf (S1.els v) j)
  fr : Fr [I.mp v] w5 w6
  c4 : w6.cell? ⟨I.bw, 4, none⟩ = some (.slice (some ⟨I.bh, 0, none⟩) nK nK)
  cz : w6.cell? ⟨I.bh, z.2, none⟩ = some (.slice (some ⟨g, 0, none⟩) n cap)
  fz : w6.frozen? ⟨I.bh, z.2, none⟩ = false
  idx : Calls Yba.prog 53 #[.slice (some ⟨g, 0, none⟩) n cap, .int .i64 (v : Int)] w6 fun e w' => e = .returned (.int .i64 (i : Int)) ∧ w6 = w'
  last : w6.cell? ⟨g, n - 1, none⟩ = some (.int .i64 (((S1.hold z.2)[n - 1]! : Nat) : Int))
  ci : w6.cell? ⟨g, i, none⟩ = some (.int .i64 (v : Int))
  fi : w6.frozen? ⟨g, i, none⟩ = false
theorem forget6 {own1 : Nat → Nat} {W w5 : World} {base nW nK sz : Nat} {pen : Int} {I I1 : Ids} {S1 : WSt} {v : Nat} {es : List (Nat × Nat)} {z : Nat × Nat} {cm1 cm2 : Nat → Value} {g n cap i : Nat} (F : FgF own1 W base nW nK sz pen I I1 S1 v es z cm1 g n cap i) (hv : v < nW) (hD : Dl w5 I.bm (v * 6) (nW * 6) cm2 es) (hkp : CmKeep (v * 6) cm1 cm2) (hfr : Fr (I.bm :: (S1.els v).map Prod.fst) W w5) :
    ∃ w6, Fg6 own1 w5 w6 base nW nK sz pen I I1 S1 v es z g n cap i := by
  have h := F.ws
  have hb2 := h.b2
  have hb3 := h.b3
  have hfit := hD.fit
  have hzk := F.zk
  have hF0 : FrT own1 (fun x => x = 3 ∨ x = 20 + v) W w5 := FrT.of hfr (fun b _ hb => by
    rcases List.mem_cons.1 hb with rfl | hb
    · exact Or.inl (by rw [← F.bm]; exact h.om)
    · obtain ⟨f, hf, rfl⟩ := List.mem_map.1 hb
      exact Or.inr (h.oel v hv f hf))
  have hm5 : MapF w5 (I.mp v) 10000 (elOf (S1.els v)) := by have := hF0.mapf (h.mapf v hv) (by rw [h.omp v hv]; omega); rw [F.mp] at this; exact this
  obtain ⟨w6, hdel, hmf, hfr6, _⟩ := hm5.drop under112 (show z.2 < 10000 by omega) 0
  have hF1 : FrT own1 (fun x => x = 10 + v) w5 w6 := FrT.of hfr6 (fun b _ hb => by simp at hb; subst hb; rw [← F.mp]; exact h.omp v hv)
  have rw6 := hF1.row (hF0.row h.rw_ (by rw [h.ow]; omega)) (by rw [h.ow]; omega)
  have rh6 := hF1.row (hF0.row h.rh (by rw [h.oh]; omega)) (by rw [h.oh]; omega)
  have ho6 := hF1.own (hF0.own (h.ho z.2 hzk) (fun b hb => by rw [h.ohv z.2 hzk b hb]; omega)) (fun b hb => by rw [h.ohv z.2 hzk b hb]; omega)
  rw [F.hv, F.nL] at ho6
  have c4 : w6.cell? ⟨I1.bw, 4, none⟩ = some (.slice (some ⟨I1.bh, 0, none⟩) nK nK) := rw6.cell (i := 4) (by omega)
  rw [F.bw, F.bh] at c4
  have cz := rh6.cell hzk
  rw [F.bh, F.hv] at cz
  have fz := rh6.frozen z.2
  rw [F.bh] at fz
  have hcells : ∀ j, j < n → w6.cell? ⟨g, j, none⟩ = some (.int .i64 (((S1.hold z.2)[j]! : Nat) : Int)) := fun j hj => by
    have hj' : j < (S1.hold z.2).length := by rw [F.nL]; exact hj
    have k := ho6.cells (g := g) rfl j (.int .i64 (((S1.hold z.2)[j]! : Nat) : Int)) (by rw [List.getElem?_map, List.getElem?_eq_getElem hj', getElem!_pos _ j hj']; rfl)
    have hadd : (⟨g, 0, none⟩ : Addr).add j = ⟨g, j, none⟩ := by unfold Addr.add; split <;> simp_all
    rw [hadd] at k; exact k
  have hiv : (S1.hold z.2)[i]! = v := by
    have hi' : i < (S1.hold z.2).length := by rw [F.nL]; exact F.iN
    have := F.iv; rw [List.getElem?_eq_getElem hi'] at this; rw [getElem!_pos _ i hi']; simpa using this
  have hfg : ∀ j, w6.frozen? ⟨g, j, none⟩ = false := fun j => by
    rcases ho6.2 with ⟨h1, _⟩ | ⟨g', cap', cur, hv', hb, hg, hc, _⟩
    · cases h1
    · unfold slN at hv'
      simp only [Value.slice.injEq, Option.some.injEq, Addr.mk.injEq, and_true, true_and] at hv'
      obtain ⟨rfl, rfl⟩ := hv'
      simp [World.frozen?, hg]
  have hgl : g < w6.heap.size := by have := World.block_lt_of_cell? w6 _ (hcells 0 F.n0); simpa using this
  have c5 := hD.row.cell (i := v * 6 + 5) (by omega)
  rw [hkp _ (by omega) (by omega) (by omega), (F.hl v hv).2, F.mp] at c5
  refine ⟨w6, ⟨c5, hdel, hmf, hfr6, c4, cz, fz, ?_, hcells (n - 1) (by have := F.n0; omega), ?_, hfg i⟩⟩
  · have hlen : ((S1.hold z.2).map fun (u : Nat) => (u : Int)).length = n := by simp [F.nL]
    have hget : ∀ q, q < n → ((S1.hold z.2).map fun (u : Nat) => (u : Int))[q]! = (((S1.hold z.2)[q]! : Nat) : Int) := fun q hq => by
      have hq' : q < (S1.hold z.2).length := by rw [F.nL]; exact hq
      rw [getElem!_pos _ q (by rw [hlen]; exact hq), getElem!_pos _ q hq']; simp
    have k := index53 (some ⟨g, 0, none⟩) cap ((S1.hold z.2).map fun (u : Nat) => (u : Int)) (v : Int) i w6 (fun j hj => ⟨g, 0, rfl, hgl, by rw [hlen] at hj; rw [hget j hj, Nat.zero_add]; exact hcells j hj⟩) (by rw [hlen]; have := F.nb; omega) (by rw [hlen]; exact F.iN) (by rw [hget i F.iN, hiv]) (fun q hq => by
      rw [hget q (by have := F.iN; omega)]
      intro e
      have e' : (S1.hold z.2)[q]! = v := by omega
      have hq' : q < (S1.hold z.2).length := by rw [F.nL]; have := F.iN; omega
      have hi' : i < (S1.hold z.2).length := by rw [F.nL]; exact F.iN
      have hp := List.pairwise_iff_getElem.1 (List.nodup_iff_pairwise_ne.1 (h.hs z.2 hzk).1) q i hq' hi' hq
      rw [getElem!_pos _ q hq'] at e'
      rw [getElem!_pos _ i hi'] at hiv
      exact hp (e'.trans hiv.symm))
    rw [hlen] at k
    exact k
  · rw [hcells i F.iN, hiv]
theorem stok_forget {own own1 : Nat → Nat} {w W4 w5 w6 W8 : World} {base nW nK sz : Nat} {pen : Int} {I I1 : Ids} {S S1 : WSt} {v k : Nat} {es : List (Nat × Nat)} {z : Nat × Nat} {cm1 cm2 : Nat → Value} {g n cap i : Nat} (hv : v < nW) (P : P7 own own1 w W4 base nW nK sz pen I I1 S S1 v k) (F : FgF own1 W4 base nW nK sz pen I I1 S1 v es z cm1 g n cap i) (hD : Dl w5 I.bm (v * 6) (nW * 6) cm2 es) (hkp : CmKeep (v * 6) cm1 cm2) (hfr : Fr (I.bm :: (S1.els v).map Prod.fst) W4 w5) (F6 : Fg6 own1 w5 w6 base nW nK sz pen I I1 S1 v es z g n cap i)
    (hW8 : W8 = (w6.setCell ⟨g, i, none⟩ (.int .i64 (((S1.hold z.2)[n - 1]! : Nat) : Int))).setCell ⟨I.bh, z.2, none⟩ (slN g (n - 1) cap)) (hnk : k ∉ (S.els v).map Prod.snd) (hs0 : 0 < sz) : ∃ I2 S2, StOk own own1 w W8.drew base nW nK sz sz pen I I2 S S2 v k := by
  have hw := ws_forget F.ws hv F.el F.oth (by have := F.esl; omega) F.hcm F.hl (by rw [F.bm]; exact hD) hkp (by rw [F.bm]; exact hfr) (by rw [F.mp]; exact F6.map) (by rw [F.mp]; exact F6.fr) F.hv F.nL F.iN F.iv (w5 := W8) (by rw [F.bh]; exact hW8)
  have hwd := hw.1.kept (T := fun _ => False) (w' := W8.drew) ⟨rfl, rfl, rfl, Nat.le_refl _, fun _ _ _ => rfl⟩ (OwnUp.refl _ _) (fun x hx => hx.elim)
  refine ⟨_, _, ⟨hwd, P.free, P.bw, P.bf, ?_, fun u hu => ?_, P.up, ?_⟩⟩
  · show (setL S1.els v es v).map Prod.snd = _
    rw [setL_same]
    unfold memT
    rw [if_neg hnk, if_neg (by omega)]
    have e1 : (es ++ [z]).map Prod.snd = k :: (S.els v).map Prod.snd := by rw [← F.el, P.el]; rfl
    rw [← e1, List.map_append, List.take_append_of_le_length (by simp [F.esl]), List.take_of_length_le (by simp [F.esl])]
  · show setL S1.els v es u = _
    rw [setL_other _ _ hu]; exact P.oth u hu
  · have := P.fr.trans P.up hw.2
    exact ⟨this.os, this.tape, this.output, this.size, this.block⟩
end Go.Proofs.Ybulkdpsg

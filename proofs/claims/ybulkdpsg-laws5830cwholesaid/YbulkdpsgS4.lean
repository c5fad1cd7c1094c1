/- S5830C: the sticky placement: arrive. -/
import Derived.Test.YbulkdpsgS3
import Derived.Deep.DeepCutAuto
namespace Go.Proofs.Ybulkdpsg
open Go Go.RowKit Go.Sort Go.Proofs Go.Lib
set_option linter.unusedVariables false
set_option linter.unusedSimpArgs false

def qv0 (K : SId) (B : SSt) (j k : Nat) : Value := (bkF K B j k).getD (.slice none 0 0)
theorem qv0_own {own : Nat → Nat} {w : World} {base bt n bw br nJ nK : Nat} {K : SId} {B : SSt} (h : St own w base bt n bw br nJ nK K B) {j k : Nat} (hj : j < nJ) (hk : k < nK) : OwnsQ w base (qv0 K B j k) (B.bk j k) ∧ ∀ b, (qv0 K B j k).ownBlock = some b → own b = 100 + 10 * j + k := by
  unfold qv0 bkF
  by_cases e : B.bk j k = []
  · rw [if_pos e, e]; exact ⟨Or.inl ⟨rfl, rfl⟩, fun b hb => by simp [Value.ownBlock] at hb⟩
  · rw [if_neg e]; exact ⟨h.qk j hj k hk e, fun b hb => h.ok j hj k hk e b hb⟩
/-- The world behind an append onto a queue. -/
theorem fr_app {W w' : World} {v : Value} (h : W.grownBy w' v.ownBlock) : Fr v.ownBlock.toList W w' := ⟨h.os, h.tape, h.output, h.size, fun k hk hn => h.block k hk (fun e => hn (by simp [← e]))⟩
set_option maxRecDepth 100000 in
set_option maxHeartbeats 4000000 in
theorem arrive97 {own : Nat → Nat} {w : World} {base bt n bw br nJ nK : Nat} {K : SId} {B : SSt} {d : Array Tk} {key : Nat → Nat} {vr vi : Value} {R : RuSt} (h : St own w base bt n bw br nJ nK K B) (ht : Tks own w bt n nK d key) (hr : Ru own w base br vr vi R) (hnJ : R.nJ = nJ) (hbase : base ≤ w.heap.size) (t j k : Nat) (htn : t < n) (hjob : d[t]!.job = (j : Int)) (hj : j < nJ) (hkey : key t = k) (hwl : (B.wl j).length < 2048) (hbk : (B.bk j k).length < 2048) (hen : R.wait j < 3000 ∧ R.enq < 3000) :
    Calls Yba.prog 97 #[pn K.bs 0, .int .i64 (t : Int)] w fun e w' => e = .returned (.tuple #[]) ∧ ∃ own' K', St own' w' base bt n bw br nJ nK K' { B with wl := setL B.wl j (B.wl j ++ [t]), bk := set2 B.bk j k (B.bk j k ++ [t]) } ∧ K'.bs = K.bs ∧ Ru own' w' base br vr vi { R with wait := setN R.wait j (R.wait j + 1), enq := R.enq + 1 } ∧ OwnUp w own own' ∧ FrT own (fun x => x = 41 ∨ x = 42 ∨ (70 ≤ x ∧ x < 200)) w w' := by
  have mixed := mixedYba
  have HH : Hid (St own w base bt n bw br nJ nK K B) := h
  have HRU : Hid (Ru own w base br vr vi R) := hr
  have hn2 := ht.b
  have hnJ4 := h.b1
  have hnK5 := h.b2
  have hkK : k < nK := by have := (ht.key_ t htn).2; rw [hkey] at this; exact this
  obtain ⟨_, cj, ck, _, _⟩ := cellT ht.holds (show t < d.size by rw [ht.size]; exact htn)
  rw [hjob] at cj
  rw [(ht.key_ t htn).1, hkey] at ck
  have s0 : w.cell? ⟨K.bs, 0, none⟩ = some (.iface 58 (pn br 0)) := h.rs.cell (i := 0) (by omega)
  have s1 : w.cell? ⟨K.bs, 1, none⟩ = some (.slice (some ⟨bt, 0, none⟩) n n) := h.rs.cell (i := 1) (by omega)
  have s3 : w.cell? ⟨K.bs, 3, none⟩ = some (.slice (some ⟨K.bj, 0, none⟩) nJ nJ) := h.rs.cell (i := 3) (by omega)
  have zt : (t : Int) < (n : Int) := by omega
  have zj : (j : Int) < (nJ : Int) := by omega
  have cw : w.cell? ⟨K.bj, j * 2, none⟩ = some (K.vw j) := by have := h.rj.cell (i := j * 2) (by omega); rw [this]; simp [jbF]
  have cmm : w.cell? ⟨K.bj, j * 2 + 1, none⟩ = some (.map (some (K.mpj j))) := by have := h.rj.cell (i := j * 2 + 1) (by omega); rw [this]; unfold jbF; rw [if_neg (by omega), show (j * 2 + 1) / 2 = j by omega]
  generalize hvw : K.vw j = vw0 at cw
  have HVW : Hid (K.vw j = vw0) := hvw
  clear hvw h ht hr hjob hkey
  go_enter Yba.func97, Yba.ntmps97
  go_wp2_with fail
  go_quiet (fail)
  obtain ⟨W0, hW0⟩ : ∃ X, X = w.drewN nq := ⟨_, rfl⟩
  rw [← hW0]
  have F0 : Hid (Fr [] w W0) := by show Fr _ _ _; rw [hW0]; exact Fr.drewN _ _ _
  have hs0 : W0.heap.size = w.heap.size := by rw [hW0]; rfl
  clear hW0
  have q0 : W0.cell? ⟨K.bs, 0, none⟩ = some (.iface 58 (pn br 0)) := F0.out.cell s0 (by simp)
  have q3 : W0.cell? ⟨K.bs, 3, none⟩ = some (.slice (some ⟨K.bj, 0, none⟩) nJ nJ) := F0.out.cell s3 (by simp)
  have qw : W0.cell? ⟨K.bj, j * 2, none⟩ = some vw0 := F0.out.cell cw (by simp)
  obtain ⟨W1, hW1⟩ : ∃ X, W0.alloc (.cells #[.int .i64 (t : Int)] 3) = X := ⟨_, rfl⟩
  have F1 : Hid (Fr [] w W1) := by show Fr _ _ _; rw [← hW1]; exact F0.out.trans (Fr.alloc _ _ _)
  have Q1 : Hid (OwnsQ W1 base vw0 (B.wl j)) := by have := (HH.out.qw j hj).fr F1.out (by simp); rw [HVW.out] at this; exact this
  have S1 : Hid (W1.heap.size = w.heap.size + 1) := by show _ = _; rw [← hW1]; simp [hs0]
  have C1 : Hid (W1.cell? ⟨w.heap.size, 0, none⟩ = some (.int .i64 (t : Int))) := by
    show _ = _
    have Rr := World.rowIs_alloc W0 #[.int .i64 (t : Int)] 3 (fun _ => .int .i64 (t : Int)) (fun i hi => by rcases (show i = 0 by simp at hi; omega) with rfl; rfl)
    rw [hs0] at Rr
    rw [← hW1]; exact Rr.cell (i := 0) (by simp)
  clear s0 s1 s3 cj ck cw cmm
  go_wp2_with (first | (at_builtin; refine wpList_append_q W1 rfl (.tmp 33) (.tmp 35) rfl base vw0 (B.wl j) rfl Q1.out (by have := S1.out; omega) (by omega) t w.heap.size rfl C1.out (w.heap.size + 1) S1.out ?_))
  intro g off cap w2 hown hgr hat hlt
  have F2 : Hid (Fr vw0.ownBlock.toList W1 w2) := fr_app hgr
  have Q2 : Hid (OwnsQ w2 base (.slice (some ⟨g, off, none⟩) ((B.wl j).length + 1) cap) (B.wl j ++ [t]) ∧ (vw0.ownBlock = some g ∨ g = w.heap.size + 1) ∧ g < w2.heap.size) := ⟨hown, hat, hlt⟩
  clear hown hgr hat hlt
  have ovw : Hid (∀ b, vw0.ownBlock = some b → own b = 80 + j ∧ b < w.heap.size) := fun b hb => by rw [← HVW.out] at hb; exact ⟨HH.out.ow j hj b hb, (HH.out.qw j hj).lt b hb⟩
  have nw : Hid (∀ b, own b ≠ 80 + j → b ∉ vw0.ownBlock.toList) := fun b hb hm => by simp at hm; exact hb (ovw.out b hm).1
  have T2 : Hid (FrT own (fun x => x = 80 + j) w w2) := by
    have f1 := F1.out
    have f2 := F2.out
    exact ⟨f2.os.trans f1.os, f2.tape.trans f1.tape, f2.output.trans f1.output, Nat.le_trans f1.size f2.size, fun b hb hn => (f2.block b (Nat.lt_of_lt_of_le hb f1.size) (nw.out b hn)).trans (f1.block b hb (by simp))⟩
  have RJ2 : Hid (w2.rowIs K.bj 138 (nJ * 2) (jbF K)) := T2.out.row HH.out.rj (by rw [HH.out.oj]; omega)
  have cw2 : w2.cell? ⟨K.bj, j * 2, none⟩ = some vw0 := by have := RJ2.out.cell (i := j * 2) (by omega); rw [this, ← HVW.out]; simp [jbF]
  have fw2 := RJ2.out.frozen (j * 2)
  obtain ⟨vw1, hvw1⟩ : ∃ x, x = Value.slice (some ⟨g, off, none⟩) ((B.wl j).length + 1) cap := ⟨_, rfl⟩
  obtain ⟨W3, hW3⟩ : ∃ X, w2.setCell ⟨K.bj, j * 2, none⟩ (.slice (some ⟨g, off, none⟩) ((B.wl j).length + 1) cap) = X := ⟨_, rfl⟩
  have T3 : Hid (FrT own (fun x => x = 71 ∨ x = 80 + j) w W3) := by
    show FrT _ _ _ _
    rw [← hW3]
    exact (T2.out.mono (fun x hx => Or.inr hx)).trans (OwnUp.refl _ _) (FrT.of (S := [K.bj]) (Fr.setCell w2 _ _ (by simp)) (fun b _ hb => by simp at hb; subst hb; exact Or.inl HH.out.oj))
  have RJ3 : Hid (W3.rowIs K.bj 138 (nJ * 2) (jbF { K with vw := setL K.vw j vw1 })) := by
    show W3.rowIs _ _ _ _
    rw [← hW3]
    refine (RJ2.out.set (j * 2) _).congr fun i hi => ?_
    by_cases e : i = j * 2
    · subst e; rw [if_pos rfl]; simp [jbF, setL, hvw1]
    · rw [if_neg e]
      unfold jbF
      by_cases e2 : i % 2 = 0
      · rw [if_pos e2, if_pos e2]; show _ = setL K.vw j vw1 (i / 2); rw [setL_other _ _ (by omega)]
      · rw [if_neg e2, if_neg e2]
  have HV1 : Hid (vw1 = .slice (some ⟨g, off, none⟩) ((B.wl j).length + 1) cap) := hvw1
  have cm3 : W3.cell? ⟨K.bj, j * 2 + 1, none⟩ = some (.map (some (K.mpj j))) := by have := RJ3.out.cell (i := j * 2 + 1) (by omega); rw [this]; unfold jbF; rw [if_neg (by omega)]; show _ = some (Value.map (some (K.mpj j))); rw [show (j * 2 + 1) / 2 = j by omega]
  have b03 : W3.cell? ⟨K.bs, 0, none⟩ = some (.iface 58 (pn br 0)) := (T3.out.row HH.out.rs (by rw [HH.out.os]; omega)).cell (i := 0) (by omega)
  have hq0 := qv0_own HH.out hj hkK
  have M3 : Hid (MapF W3 (K.mpj j) 10000 (bkF K B j)) := T3.out.mapf (HH.out.mp j hj) (by rw [HH.out.om j hj]; omega)
  obtain ⟨qv, hqv⟩ : ∃ x, x = qv0 K B j k := ⟨_, rfl⟩
  have O3 : Hid (OwnsQ W3 base qv (B.bk j k) ∧ ∀ b, qv.ownBlock = some b → own b = 100 + 10 * j + k ∧ b < w.heap.size) := ⟨by rw [hqv]; exact hq0.1.frT T3.out (fun b hb => by rw [hq0.2 b hb]; omega), fun b hb => by rw [hqv] at hb; exact ⟨hq0.2 b hb, hq0.1.lt b hb⟩⟩
  have lk3 : (Instr.lookup 136 (.map (some (K.mpj j))) (.int .i64 (k : Int)) false).run Yba.prog W3.drew = .ok qv W3.drew := by rw [hqv]; exact (M3.out.fr (S := []) (Fr.drewN [] W3 1) (by simp)).look1 under136 (zero48 _) (by omega)
  obtain ⟨W4, hW4⟩ : ∃ X, (W3.alloc (.cells #[.int .i64 (t : Int)] 3)).drew = X := ⟨_, rfl⟩
  have F4 : Hid (Fr [] W3 W4) := by show Fr _ _ _; rw [← hW4]; exact (Fr.alloc _ _ _).trans (Fr.drewN _ _ 1)
  have lk4 : (Instr.lookup 136 (.map (some (K.mpj j))) (.int .i64 (k : Int)) false).run Yba.prog W4 = .ok qv W4 := by rw [hqv]; exact (M3.out.fr F4.out (by simp)).look1 under136 (zero48 _) (by omega)
  have cm4 : W4.cell? ⟨K.bj, j * 2 + 1, none⟩ = some (.map (some (K.mpj j))) := F4.out.cell cm3 (by simp)
  have Q4 : Hid (OwnsQ W4 base qv (B.bk j k)) := O3.out.1.fr F4.out (by simp)
  have S4 : Hid (W4.heap.size = W3.heap.size + 1) := by show _ = _; rw [← hW4]; simp
  have C4 : Hid (W4.cell? ⟨W3.heap.size, 0, none⟩ = some (.int .i64 (t : Int))) := by
    show _ = _
    have Rr := World.rowIs_alloc W3 #[.int .i64 (t : Int)] 3 (fun _ => .int .i64 (t : Int)) (fun i hi => by rcases (show i = 0 by simp at hi; omega) with rfl; rfl)
    rw [← hW4]; exact Rr.cell (i := 0) (by simp)
  have HB4 : Hid (base ≤ W4.heap.size) := by have := T3.out.size; have := S4.out; show base ≤ W4.heap.size; omega
  have nk : Hid (∀ b, own b ≠ 100 + 10 * j + k → b ∉ qv.ownBlock.toList) := fun b hb hm => by simp at hm; exact hb (O3.out.2 b hm).1
  have HPUT : Hid (∀ g2 off2 cap2 w5, OwnsQ w5 base (.slice (some ⟨g2, off2, none⟩) ((B.bk j k).length + 1) cap2) (B.bk j k ++ [t]) → W4.grownBy w5 qv.ownBlock → w5.cell? ⟨K.bj, j * 2 + 1, none⟩ = some (.map (some (K.mpj j))) ∧ ∃ w6, (Instr.mapUpdate 136 (.map (some (K.mpj j))) (.int .i64 (k : Int)) (.slice (some ⟨g2, off2, none⟩) ((B.bk j k).length + 1) cap2)).run Yba.prog w5 = .ok () w6 ∧ MapF w6 (K.mpj j) 10000 (fun x => if x = k then some (.slice (some ⟨g2, off2, none⟩) ((B.bk j k).length + 1) cap2) else bkF K B j x) ∧ Fr [K.mpj j] w5 w6 ∧ w6.heap.size = w5.heap.size) := fun g2 off2 cap2 w5 ho hg => by
    have f5 := fr_app hg
    refine ⟨f5.cell cm4 (nk.out _ (by show own K.bj ≠ _; rw [HH.out.oj]; omega)), ?_⟩
    have m5 := (M3.out.fr F4.out (by simp)).fr f5 (nk.out _ (by rw [HH.out.om j hj]; omega))
    obtain ⟨w6, a, b, c, e⟩ := m5.store under136 (by omega) (show k < 10000 by omega) (.slice (some ⟨g2, off2, none⟩) ((B.bk j k).length + 1) cap2)
    exact ⟨w6, a, b.tight, c, e⟩
  have HQV : Hid (qv = qv0 K B j k) := hqv
  clear hvw1 hq0 hqv
  go_upto_region 3 with fail
  go_cut [] (fun wx => ∃ g2 off2 cap2 w5, Hid (OwnsQ w5 base (.slice (some ⟨g2, off2, none⟩) ((B.bk j k).length + 1) cap2) (B.bk j k ++ [t]) ∧ W4.grownBy w5 qv.ownBlock ∧ (qv.ownBlock = some g2 ∨ g2 = W3.heap.size + 1) ∧ g2 < w5.heap.size ∧ MapF wx (K.mpj j) 10000 (fun x => if x = k then some (.slice (some ⟨g2, off2, none⟩) ((B.bk j k).length + 1) cap2) else bkF K B j x) ∧ Fr [K.mpj j] w5 wx ∧ wx.heap.size = w5.heap.size))
  case first =>
   go_region_law (refine step_append_q W4 rfl (.tmp 49) (.tmp 51) rfl base qv (B.bk j k) (by simp [Act.eval, Act.put]) Q4.out HB4.out (by omega) t W3.heap.size (by simp [Act.eval, Act.put]) C4.out (W3.heap.size + 1) S4.out ?_; intro g2 off2 cap2 w5 hown hgr hat hlt; obtain ⟨cm5, w6, hup, hm6, hf6, hz6⟩ := HPUT.out g2 off2 cap2 w5 hown hgr; have HX : Hid (OwnsQ w5 base (.slice (some ⟨g2, off2, none⟩) ((B.bk j k).length + 1) cap2) (B.bk j k ++ [t]) ∧ W4.grownBy w5 qv.ownBlock ∧ (qv.ownBlock = some g2 ∨ g2 = W3.heap.size + 1) ∧ g2 < w5.heap.size ∧ MapF w6 (K.mpj j) 10000 (fun x => if x = k then some (.slice (some ⟨g2, off2, none⟩) ((B.bk j k).length + 1) cap2) else bkF K B j x) ∧ Fr [K.mpj j] w5 w6 ∧ w6.heap.size = w5.heap.size) := ⟨hown, hgr, hat, hlt, hm6, hf6, hz6⟩; clear hown hgr hat hlt hm6 hf6 hz6)
   all_goals
     go_wp2_with fail
     go_meet
     exact ⟨g2, off2, cap2, w5, HX⟩
  case rest =>
    obtain ⟨g2, off2, cap2, w5, HX⟩ := hcut
    obtain ⟨w6, hw6⟩ : ∃ x, x = wc := ⟨wc, rfl⟩
    subst hw6
    have HEQ : Hid (∃ own', OwnUp w own own' ∧ own' g = 80 + j ∧ own' g2 = 100 + 10 * j + k ∧ FrT own (fun x => x = 71 ∨ x = 80 + j ∨ x = 90 + j ∨ x = 100 + 10 * j + k) w w6) := by
      obtain ⟨x1, x2, x3, x4, x5, x6, x7⟩ := HX.out
      have sz2 := F2.out.size
      have sz1 := S1.out
      have szg := Q2.out
      have sz3 : W3.heap.size = w2.heap.size := by rw [← hW3]; simp [World.setCell]
      refine ⟨fun b => if b < w.heap.size then own b else if b = g then 80 + j else 100 + 10 * j + k, fun b hb => if_pos hb, ?_, ?_, ?_⟩
      · show (if g < w.heap.size then own g else if g = g then 80 + j else 100 + 10 * j + k) = _
        rcases szg.2.1 with e | e
        · have := ovw.out g e; rw [if_pos this.2]; exact this.1
        · rw [if_neg (by omega), if_pos rfl]
      · show (if g2 < w.heap.size then own g2 else if g2 = g then 80 + j else 100 + 10 * j + k) = _
        rcases x3 with e | e
        · have := O3.out.2 g2 e; rw [if_pos this.2]; exact this.1
        · have := szg.2.2; rw [if_neg (by omega), if_neg (by omega)]
      · have f5 := fr_app x2
        refine ⟨x6.os.trans (f5.os.trans (F4.out.os.trans T3.out.os)), x6.tape.trans (f5.tape.trans (F4.out.tape.trans T3.out.tape)), x6.output.trans (f5.output.trans (F4.out.output.trans T3.out.output)), by have := T3.out.size; have := f5.size; have := S4.out; omega, fun b hb hn => ?_⟩
        have h3 := T3.out.size
        have h4 := S4.out
        have h5 := f5.size
        rw [x6.block b (by omega) (by simp; intro e; subst e; exact hn (by rw [HH.out.om j hj]; omega)), f5.block b (by omega) (nk.out b (by omega)), F4.out.block b (by omega) (by simp), T3.out.block b hb (by omega)]
    have b06 : w6.cell? ⟨K.bs, 0, none⟩ = some (.iface 58 (pn br 0)) := by
      have f5 := fr_app HX.out.2.1
      exact HX.out.2.2.2.2.2.1.cell (f5.cell (F4.out.cell b03 (by simp)) (nk.out _ (by show own K.bs ≠ _; rw [HH.out.os]; omega))) (by simp; intro e; have := HH.out.os; rw [e, HH.out.om j hj] at this; omega)
    obtain ⟨own', hou, hog, hog2, hft⟩ := HEQ.out
    have hr6 := HRU.out.kept hft hou (fun x hx => by omega)
    have henq := enq122 hr6 j (by rw [hnJ]; exact hj) hen
    have HO : Hid (OwnUp w own own' ∧ own' g = 80 + j ∧ own' g2 = 100 + 10 * j + k ∧ FrT own (fun x => x = 71 ∨ x = 80 + j ∨ x = 90 + j ∨ x = 100 + 10 * j + k) w w6) := ⟨hou, hog, hog2, hft⟩
    have c122 := cf122
    have mde := fun x w => (md_rule x w).2.1
    clear hou hog hog2 hft hr6 HEQ
    go_wp2_with (first | (go_at_call 122; refine henq.mono ?_; clear henq; rintro e w7 ⟨rfl, h1, h2⟩; have HE : Hid (Ru own' w7 base br vr vi { R with wait := setN R.wait j (R.wait j + 1), enq := R.enq + 1 } ∧ FrT own' (fun x => x = 41 ∨ x = 42) w6 w7) := ⟨h1, h2⟩; clear h1 h2))
    go_end0
    obtain ⟨hou, hog, hog2, hft⟩ := HO.out
    obtain ⟨hru, hfe⟩ := HE.out
    obtain ⟨x1, x2, x3, x4, x5, x6, x7⟩ := HX.out
    have h := HH.out
    have hfin : FrT own (fun x => x = 41 ∨ x = 42 ∨ x = 71 ∨ x = 80 + j ∨ x = 90 + j ∨ x = 100 + 10 * j + k) w w7 := (hft.mono (fun x hx => by omega)).trans hou (hfe.mono (fun x hx => by omega))
    have obj : own' K.bj = 71 := by rw [hou _ h.rj.lt]; exact h.oj
    have omp : own' (K.mpj j) = 90 + j := by rw [hou _ (h.mp j hj).lt]; exact h.om j hj
    have oqv : ∀ b, b ∈ qv.ownBlock.toList → own' b = 100 + 10 * j + k := fun b hm => by simp at hm; have := O3.out.2 b hm; rw [hou _ this.2]; exact this.1
    have f5 := fr_app x2
    have f3 : Fr [K.bj] w2 W3 := by rw [← hW3]; exact Fr.setCell w2 _ _ (by simp)
    have gnew : ∀ b, own' b = 80 + j ∨ own' b = 71 → b ∉ qv.ownBlock.toList ∧ b ≠ K.mpj j := fun b hb => ⟨fun hm => by have := oqv b hm; omega, fun e => by rw [e, omp] at hb; omega⟩
    refine ⟨rfl, own', _, St.reset h hj hkK vw1 (.slice (some ⟨g2, off2, none⟩) ((B.bk j k).length + 1) cap2) (B.wl j ++ [t]) (B.bk j k ++ [t]) B.started (hfin.mono (fun x hx => by omega)) hou ?_ (hfin.row h.rt (by rw [h.ot]; omega)) (fun b hb => by rw [HV1.out] at hb; simp [Value.ownBlock] at hb; subst hb; exact hog) ?_ (by simp; omega) (fun x hx => ?_) ?_ (fun _ b hb => by simp [Value.ownBlock] at hb; subst hb; exact hog2) (fun _ => ?_) (by simp; omega) (fun x hx => ?_), rfl, hru, hou, hfin.mono (fun x hx => by omega)⟩
    · have r5 := x6.row (f5.row (F4.out.row RJ3.out (by simp)) (gnew K.bj (Or.inr obj)).1) (by simp; exact (gnew K.bj (Or.inr obj)).2)
      exact hfe.row r5 (by rw [obj]; omega)
    · have gb := gnew g (Or.inl hog)
      have gbj : g ≠ K.bj := fun e => by rw [e, obj] at hog; omega
      have q3 := Q2.out.1.fr f3 (fun b hb => by simp [Value.ownBlock] at hb; subst hb; simp [gbj])
      have q4 := q3.fr F4.out (by simp)
      have q5 := q4.fr f5 (fun b hb => by simp [Value.ownBlock] at hb; subst hb; exact gb.1)
      have q6 := q5.fr x6 (fun b hb => by simp [Value.ownBlock] at hb; subst hb; simp [gb.2])
      rw [HV1.out]
      exact q6.frT hfe (fun b hb => by simp [Value.ownBlock] at hb; subst hb; rw [hog]; omega)
    · rcases List.mem_append.1 hx with hx | hx
      · exact h.wn j hj x hx
      · simp at hx; subst hx; exact htn
    · have e1 : (fun x => if x = k then (if B.bk j k ++ [t] = [] then none else some (Value.slice (some ⟨g2, off2, none⟩) ((B.bk j k).length + 1) cap2)) else bkF K B j x) = (fun x => if x = k then some (Value.slice (some ⟨g2, off2, none⟩) ((B.bk j k).length + 1) cap2) else bkF K B j x) := by
        funext x; simp
      rw [e1]
      exact hfe.mapf x5 (by rw [omp]; omega)
    · have q6 := x1.fr x6 (fun b hb => by simp [Value.ownBlock] at hb; subst hb; simp; intro e; rw [e, omp] at hog2; omega)
      exact q6.frT hfe (fun b hb => by simp [Value.ownBlock] at hb; subst hb; rw [hog2]; omega)
    · rcases List.mem_append.1 hx with hx | hx
      · exact h.kn j hj k x hx
      · simp at hx; subst hx; exact htn
end Go.Proofs.Ybulkdpsg

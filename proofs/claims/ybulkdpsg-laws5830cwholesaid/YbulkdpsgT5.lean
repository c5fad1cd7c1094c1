/- S5830C: the sticky placement: next. -/
import Derived.Test.YbulkdpsgT4
namespace Go.Proofs.Ybulkdpsg
open Go Go.RowKit Go.Sort Go.Proofs Go.Lib
set_option linter.unusedVariables false
set_option linter.unusedSimpArgs false
theorem cf100 (args : Array Value) (w : World) : (callFunc 100 args).run Yba.prog w = .ok (.enter 100 args) w := by kernel_rfl
/-- What next leaves. -/
def NxPost (own : Nat → Nat) (w : World) (base bt n bw br nJ nK nW : Nat) (K : SId) (B : SSt) (S : WSt) (key : Nat → Nat) (vr vi : Value) (R : RuSt) (now : Int) (e : Ending) (w' : World) : Prop := FrT own (fun x => x = 41 ∨ x = 42 ∨ x = 43 ∨ (70 ≤ x ∧ x < 200)) w w' ∧
      ((ruL R.wait R.inf nJ = -1 ∧ e = .returned (.tuple #[.int .i64 0, .int .i64 0, .bool false]) ∧ St own w' base bt n bw br nJ nK K B ∧ Ru own w' base br vr vi { R with last := now }) ∨
       ∃ (j t : Nat) (v : Int) (l wl' : List Nat) (K' : SId), j < nJ ∧ ruL R.wait R.inf nJ = (j : Int) ∧ 0 < R.wait j ∧ t < n ∧ B.bk j (key t) = t :: l ∧ Picked nW S B key j t v ∧ ns B wl' = ns B (B.wl j) ∧ wl'.length ≤ (B.wl j).length ∧ e = .returned (.tuple #[.int .i64 (t : Int), .int .i64 v, .bool true]) ∧ K'.bs = K.bs ∧
         St own w' base bt n bw br nJ nK K' { wl := setL B.wl j wl', bk := set2 B.bk j (key t) l, started := upd B.started t true } ∧
         Ru own w' base br vr vi { R with last := now, wait := setN R.wait j (R.wait j - 1), inf := setN R.inf j (R.inf j + 1), starts := R.starts + 1 })
set_option maxRecDepth 100000 in
set_option maxHeartbeats 8000000 in
theorem next99 {own : Nat → Nat} {w : World} {base bt n br nJ nK nW sz lm : Nat} {pen : Int} {I : Ids} {S : WSt} {K : SId} {B : SSt} {d : Array Tk} {key : Nat → Nat} {vr vi : Value} {R : RuSt} (h : St own w base bt n I.bw br nJ nK K B) (hw : WS own w base nW nK sz lm pen I S) (ht : Tks own w bt n nK d key) (hr : Ru own w base br vr vi R) (hnJ : R.nJ = nJ) (hJ0 : 0 < nJ) (now : Int) (hnow : R.last ≤ now) (hst : R.starts < 3000) (hinf : ∀ j, j < nJ → R.inf j < 3000)
    (hkey : ∀ j, j < nJ → ∀ k t, t ∈ B.bk j k → key t = k) (hne : ∀ j, j < nJ → 0 < R.wait j → ∃ t r, ns B (B.wl j) = t :: r ∧ ∃ l, B.bk j (key t) = t :: l) :
    Calls Yba.prog 99 #[pn K.bs 0, .int .i64 now] w fun e w' => NxPost own w base bt n I.bw br nJ nK nW K B S key vr vi R now e w' := by
  have mixed := mixedYba
  subst hnJ
  have HH : Hid (St own w base bt n I.bw br R.nJ nK K B) := h
  have HW : Hid (WS own w base nW nK sz lm pen I S) := hw
  have HT : Hid (Tks own w bt n nK d key) := ht
  have HKEY : Hid (∀ j, j < R.nJ → ∀ k t, t ∈ B.bk j k → key t = k) := hkey
  have HNE : Hid (∀ j, j < R.nJ → 0 < R.wait j → ∃ t r, ns B (B.wl j) = t :: r ∧ ∃ l, B.bk j (key t) = t :: l) := hne
  have hJ4 := h.b1
  have hn2 := ht.b
  have hK5 := hw.b3
  have hstart := start123 hr (by omega) now hnow hst hinf
  have s0 : w.cell? ⟨K.bs, 0, none⟩ = some (.iface 58 (pn br 0)) := h.rs.cell (i := 0) (by omega)
  have c123 := cf123
  have mds := fun x w => (md_rule x w).2.2.1
  clear h hw ht hr hkey hne
  go_enter Yba.func99, Yba.ntmps99
  go_upto_if 21 with (first | (go_at_call 123; refine hstart.mono ?_; clear hstart; rintro e w1 ⟨hfr1, hcase⟩; have HF1 : Hid (FrT own (fun x => x = 41 ∨ x = 42 ∨ x = 43) w w1) := hfr1; clear hfr1; rcases hcase with ⟨hru1, rfl, hRu1⟩ | ⟨j, hj, hru1, hwj, rfl, hRu1⟩))
  · have HRL : Hid (ruL R.wait R.inf R.nJ = -1) := hru1
    have HRU : Hid (Ru own w1 base br vr vi { R with last := now }) := hRu1
    clear hru1 hRu1
    go_wp2
    go_ret3
    exact ⟨HF1.out.mono (fun x hx => by omega), Or.inl ⟨HRL.out, rfl, HH.out.kept HF1.out (OwnUp.refl _ _) (fun x hx => by omega), HRU.out⟩⟩
  have HRL : Hid (ruL R.wait R.inf R.nJ = (j : Int) ∧ 0 < R.wait j) := ⟨hru1, hwj⟩
  have HRU : Hid (Ru own w1 base br vr vi { R with last := now, wait := setN R.wait j (R.wait j - 1), inf := setN R.inf j (R.inf j + 1), starts := R.starts + 1 }) := hRu1
  obtain ⟨t0, r0, hns0, hbk0⟩ := HNE.out j hj hwj
  have HN0 : Hid (ns B (B.wl j) = t0 :: r0 ∧ ∃ l, B.bk j (key t0) = t0 :: l) := ⟨hns0, hbk0⟩
  have st1 := HH.out.kept HF1.out (OwnUp.refl _ _) (fun x hx => by omega)
  have ws1 := HW.out.kept HF1.out (OwnUp.refl _ _) (fun x hx => by omega)
  have tk1 := HT.out.kept HF1.out (OwnUp.refl _ _) (by omega)
  have hwarm := warm100 st1 ws1 tk1 j hj (HKEY.out j hj)
  have s3 : w1.cell? ⟨K.bs, 3, none⟩ = some (.slice (some ⟨K.bj, 0, none⟩) R.nJ R.nJ) := st1.rs.cell (i := 3) (by omega)
  have zj : (j : Int) < (R.nJ : Int) := by omega
  have HS1 : Hid (St own w1 base bt n I.bw br R.nJ nK K B) := st1
  clear hru1 hwj hRu1 hns0 hbk0 st1 ws1 tk1
  go_upto_region 5 with fail
  go_cut [4, 5, 6] (fun t4 v5 o6 wx => ∃ (ok : Bool) (t : Nat) (v : Int), t4 = .int .i64 (t : Int) ∧ v5 = .int .i64 v ∧ o6 = .bool ok ∧ Hid (Fr [] w1 wx ∧ (ok = true → Picked nW S B key j t v ∧ ∃ l, B.bk j (key t) = t :: l) ∧ (ok = false → ∀ k, HeldK nW S k → B.bk j k = [])))
  case first =>
    go_wp2_with (first | (go_at_call 100; refine hwarm.mono ?_; clear hwarm; rintro e w2 ⟨hf2, hcase2⟩; have HF2 : Hid (Fr [] w1 w2) := hf2; clear hf2; rcases hcase2 with ⟨rfl, hall⟩ | ⟨k, t, l, hk1, hk2, hk3, rfl⟩))
    · go_meet
      exact ⟨false, 0, 0, rfl, rfl, rfl, HF2.out, (fun e => by cases e), fun _ => hall⟩
    · go_meet
      have hkt : key t = k := HKEY.out j hj k t (by rw [hk2]; simp)
      exact ⟨true, t, _, rfl, rfl, rfl, HF2.out, fun _ => ⟨Or.inl ⟨by rw [hkt]; exact hk1, hk3, by rw [hkt]⟩, l, by rw [hkt]; exact hk2⟩, (fun e => by cases e)⟩
  case rest =>
  obtain ⟨ok, ta, va, rfl, rfl, rfl, HO⟩ := hcut
  go_upto_if 36 with fail
  obtain ⟨w2, hw2⟩ : ∃ x, x = wc := ⟨_, rfl⟩
  rw [← hw2] at HO ⊢
  clear hw2
  have HX2 : Hid (NxJ own w w2 base br R.nJ nW K B S key vr vi { R with last := now, wait := setN R.wait j (R.wait j - 1), inf := setN R.inf j (R.inf j + 1), starts := R.starts + 1 } j (K.vw j) (B.wl j)) := (NxJ.start HH.out hj HF1.out HRU.out).other HO.out.1
  go_cut [4, 5] (fun t4 v5 wx => ∃ (t : Nat) (v : Int) (vw' : Value) (wl' : List Nat), t4 = .int .i64 (t : Int) ∧ v5 = .int .i64 v ∧ Hid (NxJ own w wx base br R.nJ nW K B S key vr vi { R with last := now, wait := setN R.wait j (R.wait j - 1), inf := setN R.inf j (R.inf j + 1), starts := R.starts + 1 } j vw' wl' ∧ Picked nW S B key j t v ∧ ∃ l, B.bk j (key t) = t :: l))
  case first =>
    cases ok with
    | true =>
      go_wp2
      go_meet
      exact ⟨ta, va, K.vw j, B.wl j, rfl, rfl, HX2.out, (HO.out.2.1 (by trivial)).1, (HO.out.2.1 (by trivial)).2⟩
    | false =>
      have HALL : Hid (∀ k, HeldK nW S k → B.bk j k = []) := HO.out.2.2 (by trivial)
      go_wp2_with fail
      go_loopg [37] (B.wl j).length (fun g u wr => ∃ (vw' : Value) (wl' : List Nat), Hid (g = wl'.length ∧ NxJ own w wr base br R.nJ nW K B S key vr vi { R with last := now, wait := setN R.wait j (R.wait j - 1), inf := setN R.inf j (R.inf j + 1), starts := R.starts + 1 } j vw' wl'))
      case atStart => exact ⟨K.vw j, B.wl j, rfl, HX2.out⟩
      case round =>
        obtain ⟨vw', wl', HR⟩ := hrel
        obtain ⟨x, l, hxl⟩ : ∃ x l, wl' = x :: l := by
          cases wl' with
          | nil => have a := HR.out.2.fl; rw [HN0.out.1] at a; simp [ns] at a
          | cons x l => exact ⟨x, l, rfl⟩
        subst hxl
        obtain ⟨g, off, cap, hform, hcell⟩ := HR.out.2.q.cell (by simp)
        have cg := hcell 0 (by simp)
        simp only [List.getElem_cons_zero, Nat.add_zero, List.length_cons] at cg hform
        subst hform
        have hcap : l.length + 1 ≤ cap := HR.out.2.q.tail.2.2
        have hxn : x < n := HH.out.wn j hj x (HR.out.2.sub x (by simp))
        have hln : l.length + 1 ≤ 2048 := by have a := HR.out.2.len; have b := HH.out.lw j hj; simp at a; omega
        have d4 : wr.cell? ⟨K.bs, 4, none⟩ = some (.slice (some ⟨K.bst, 0, none⟩) n n) := (HR.out.2.fr.row HH.out.rs (by rw [HH.out.os]; omega)).cell (i := 4) (by omega)
        have dj : wr.cell? ⟨K.bj, j * 2, none⟩ = some (.slice (some ⟨g, off, none⟩) (l.length + 1) cap) := by have a := HR.out.2.rj.cell (i := j * 2) (by omega); rw [a]; simp [jbF, setL]
        have fj := HR.out.2.rj.frozen (j * 2)
        have dx : wr.cell? ⟨K.bst, x, none⟩ = some (.bool (B.started x)) := (HR.out.2.fr.row HH.out.rt (by rw [HH.out.ot]; omega)).cell hxn
        have zx : (x : Int) < (n : Int) := by omega
        have zl : (0 : Int) < ((l.length + 1 : Nat) : Int) := by omega
        cases hsx : B.started x with
        | true =>
          rw [hsx] at dx
          have HSX : Hid (B.started x = true) := hsx
          have hl1 : 1 ≤ l.length := by
            have a := HR.out.2.fl
            rw [HN0.out.1] at a
            unfold ns at a
            rw [List.filter_cons, hsx] at a
            cases l with
            | nil => simp at a
            | cons y z => simp
          have hc1 : ¬ cap = 1 := by omega
          have hc2 : ¬ cap - 1 = 0 := by omega
          clear hsx hcell
          go_wp2_with fail
          go_quiet (fail)
          go_wp2
          go_roundg l.length
          case measure => have a := HR.out.1; simp at a; omega
          case rel => exact ⟨_, l, rfl, (HR.out.2.other (Fr.drewN [] wr nq)).drop HSX.out hj hJ4 HH.out.oj⟩
        | false =>
          rw [hsx] at dx
          have HSX : Hid (B.started x = false) := hsx
          clear hsx hcell
          go_wp2_with fail
          go_quiet (fail)
          have ws4 : WS own (wr.drewN nq) base nW nK sz lm pen I S := HW.out.kept (HR.out.2.fr.trans (OwnUp.refl _ _) (frT_drewN own _ wr nq)) (OwnUp.refl _ _) (fun x hx => by omega)
          have hroom := room_all ws4
          have d2 : wr.cell? ⟨K.bs, 2, none⟩ = some (pn I.bw 0) := (HR.out.2.fr.row HH.out.rs (by rw [HH.out.os]; omega)).cell (i := 2) (by omega)
          clear ws4
          go_wp2_with (first | (go_at_call 101; refine hroom.mono ?_; clear hroom; rintro e w6 ⟨rfl, hf6⟩; have HF6 : Hid (Fr [] wr w6) := ⟨hf6.os, hf6.tape, hf6.output, hf6.size, hf6.block⟩; clear hf6))
          go_meet
          have hx0 : x = t0 := by
            have a := HR.out.2.fl
            rw [HN0.out.1] at a
            unfold ns at a
            rw [List.filter_cons, HSX.out] at a
            simp at a
            exact a.1
          exact ⟨x, _, _, x :: l, rfl, rfl, HR.out.2.other HF6.out, Or.inr ⟨HALL.out, ⟨r0, by rw [hx0]; exact HN0.out.1⟩, rfl⟩, by rw [hx0]; exact HN0.out.2⟩
  case rest =>
  obtain ⟨t, v, vw', wl', rfl, rfl, HC⟩ := hcut
  obtain ⟨w3, hw3⟩ : ∃ x, x = wc := ⟨_, rfl⟩
  rw [← hw3] at HC ⊢
  clear hw3
  obtain ⟨l, hbl⟩ := HC.out.2.2
  have HBL : Hid (B.bk j (key t) = t :: l) := hbl
  obtain ⟨k, hk⟩ : ∃ k, k = key t := ⟨_, rfl⟩
  have HK : Hid (k = key t) := hk
  have htn : t < n := HH.out.kn j hj (key t) t (by rw [hbl]; simp)
  have hkK : k < nK := by rw [hk]; exact (HT.out.key_ t htn).2
  obtain ⟨_, _, ck, _, _⟩ := cellT HT.out.holds (show t < d.size by rw [HT.out.size]; exact htn)
  rw [(HT.out.key_ t htn).1, ← hk] at ck
  have tk3 := HT.out.kept HC.out.1.fr (OwnUp.refl _ _) (by omega)
  have ck3 : w3.cell? ⟨bt, t * 5 + 2, none⟩ = some (.int .i64 (k : Int)) := by
    obtain ⟨_, _, a, _, _⟩ := cellT tk3.holds (show t < d.size by rw [HT.out.size]; exact htn)
    rw [a, (HT.out.key_ t htn).1, ← hk]
  have rs3 := HC.out.1.fr.row HH.out.rs (by rw [HH.out.os]; omega)
  have d1 : w3.cell? ⟨K.bs, 1, none⟩ = some (.slice (some ⟨bt, 0, none⟩) n n) := rs3.cell (i := 1) (by omega)
  have dm : w3.cell? ⟨K.bj, j * 2 + 1, none⟩ = some (.map (some (K.mpj j))) := by have a := HC.out.1.rj.cell (i := j * 2 + 1) (by omega); rw [a]; unfold jbF; rw [if_neg (by omega)]; show some (Value.map (some (K.mpj ((j * 2 + 1) / 2)))) = _; rw [show (j * 2 + 1) / 2 = j by omega]
  have mf3 : MapF w3 (K.mpj j) 10000 (bkF K B j) := HC.out.1.fr.mapf (HH.out.mp j hj) (by rw [HH.out.om j hj]; omega)
  have hne3 : B.bk j (key t) ≠ [] := by rw [hbl]; simp
  have hq3 := (HH.out.qk j hj (key t) (by rw [← hk]; exact hkK) hne3).frT HC.out.1.fr (fun b hb => by rw [HH.out.ok j hj (key t) (by rw [← hk]; exact hkK) hne3 b hb]; omega)
  obtain ⟨g, off, cap, hform, _⟩ := hq3.cell hne3
  have og : own g = 100 + 10 * j + key t := HH.out.ok j hj (key t) (by rw [← hk]; exact hkK) hne3 g (by rw [hform]; rfl)
  rw [hform, hbl] at hq3
  simp only [List.length_cons] at hq3 hform
  have hlook := mf3.look1 under136 (zero48 w3) (show k < 10000 by omega)
  have hbkf : bkF K B j k = some (K.vk j k) := by unfold bkF; rw [if_neg (by rw [hk]; exact hne3)]
  rw [hbkf, Option.getD_some, hk, hform, hbl, ← hk] at hlook
  simp only [List.length_cons] at hlook
  have hcap : l.length + 1 ≤ cap := hq3.tail.2.2
  have hll : l.length + 1 ≤ 2048 := by have a := HH.out.lk j hj (key t); rw [hbl] at a; simpa using a
  have HQ3 : Hid (OwnsQ w3 base (.slice (some ⟨g, off, none⟩) (l.length + 1) cap) (t :: l) ∧ own g = 100 + 10 * j + key t) := ⟨hq3, og⟩
  have HM3 : Hid (MapF w3 (K.mpj j) 10000 (bkF K B j)) := mf3
  have zt : (t : Int) < (n : Int) := by omega
  have HRS : Hid (w3.rowIs K.bs 134 5 (stF br bt n I.bw K.bj R.nJ K.bst)) := rs3
  have HRT : Hid (w3.rowIs K.bst 4 n (fun t => .bool (B.started t))) := HC.out.1.fr.row HH.out.rt (by rw [HH.out.ot]; omega)
  have HRJ : Hid (w3.rowIs K.bj 138 (R.nJ * 2) (jbF { K with vw := setL K.vw j vw' })) := HC.out.1.rj
  have nmp : Hid (K.mpj j ≠ K.bs ∧ K.mpj j ≠ K.bst ∧ K.mpj j ≠ K.bj) := by
    have a := HH.out.om j hj
    exact ⟨fun e => by rw [e, HH.out.os] at a; omega, fun e => by rw [e, HH.out.ot] at a; omega, fun e => by rw [e, HH.out.oj] at a; omega⟩
  clear hbl hk ck tk3 rs3 mf3 hne3 hq3 og hform hbkf
  by_cases hl : l = []
  · subst hl
    obtain ⟨wd, hdel, hmd, hfd, hsd⟩ := HM3.out.drop under136 (show k < 10000 by omega) 0
    have d4 : wd.cell? ⟨K.bs, 4, none⟩ = some (.slice (some ⟨K.bst, 0, none⟩) n n) := (hfd.row HRS.out (by simp; exact fun e => nmp.out.1 e.symm)).cell (i := 4) (by omega)
    have rtd := hfd.row HRT.out (by simp; exact fun e => nmp.out.2.1 e.symm)
    have dt := rtd.cell htn
    have ft := rtd.frozen t
    have HMD : Hid (MapF wd (K.mpj j) 10000 (fun j_1 => if j_1 = k then none else bkF K B j j_1) ∧ Fr [K.mpj j] w3 wd) := ⟨hmd, hfd⟩
    simp only [List.length_nil, Nat.zero_add] at hlook hcap
    clear hmd hfd hsd rtd
    go_wp2
    all_goals
      go_ret3
      obtain ⟨K', h1, h2, h3, h4⟩ := HH.out.picked (l := []) hj HC.out.1 (by rw [← HK.out]; exact hkK) htn HBL.out HQ3.out.1.tail.1 (fun hne => absurd rfl hne) (by
        have e : (fun x => if x = key t then (if ([] : List Nat) = [] then none else some (Value.slice (some ⟨g, off + 1, none⟩) ([] : List Nat).length (cap - 1))) else bkF K B j x) = (fun x => if x = k then none else bkF K B j x) := by funext x; rw [HK.out]; simp
        rw [e]; exact HMD.out.1) HMD.out.2 rfl
      exact ⟨h4, Or.inr ⟨j, t, v, [], wl', K', hj, HRL.out.1, HRL.out.2, htn, HBL.out, HC.out.2.1, HC.out.1.fl, HC.out.1.len, rfl, h2, h1, h3⟩⟩
  · obtain ⟨wd, hupd, hmd, hfd, hsd⟩ := HM3.out.store under136 (by omega) (show k < 10000 by omega) (.slice (some ⟨g, off + 1, none⟩) l.length (cap - 1))
    have d4 : wd.cell? ⟨K.bs, 4, none⟩ = some (.slice (some ⟨K.bst, 0, none⟩) n n) := (hfd.row HRS.out (by simp; exact fun e => nmp.out.1 e.symm)).cell (i := 4) (by omega)
    have rtd := hfd.row HRT.out (by simp; exact fun e => nmp.out.2.1 e.symm)
    have dt := rtd.cell htn
    have ft := rtd.frozen t
    have HMD : Hid (MapF wd (K.mpj j) 10000 (fun j_1 => if j_1 = k then some (.slice (some ⟨g, off + 1, none⟩) l.length (cap - 1)) else bkF K B j j_1) ∧ Fr [K.mpj j] w3 wd) := ⟨hmd.tight, hfd⟩
    have hl1 : 0 < l.length := List.length_pos_iff.2 hl
    have hl2 : (0 : Int) < (l.length : Int) := by omega
    have hl3 : decide ((l.length : Int) > 0) = true := decide_eq_true (by omega)
    have hl4 : decide (0 < l.length) = true := decide_eq_true (by omega)
    have hc1 : ¬ cap = 1 := by omega
    have hc2 : ¬ cap - 1 = 0 := by omega
    have HL : Hid (l ≠ []) := hl
    clear hmd hfd hsd rtd hl
    go_wp2
    go_ret3
    obtain ⟨K', h1, h2, h3, h4⟩ := HH.out.picked (l := l) hj HC.out.1 (by rw [← HK.out]; exact hkK) htn HBL.out HQ3.out.1.tail.1 (fun _ => HQ3.out.2) (by
        have e : (fun x => if x = key t then (if l = [] then none else some (Value.slice (some ⟨g, off + 1, none⟩) l.length (cap - 1))) else bkF K B j x) = (fun x => if x = k then some (Value.slice (some ⟨g, off + 1, none⟩) l.length (cap - 1)) else bkF K B j x) := by funext x; rw [HK.out, if_neg HL.out]
        rw [e]; exact HMD.out.1) HMD.out.2 rfl
    exact ⟨h4, Or.inr ⟨j, t, v, l, wl', K', hj, HRL.out.1, HRL.out.2, htn, HBL.out, HC.out.2.1, HC.out.1.fl, HC.out.1.len, rfl, h2, h1, h3⟩⟩
end Go.Proofs.Ybulkdpsg

/- S5830C: the sticky placement: warm. -/
import Derived.Test.YbulkdpsgT2
import Derived.BigQuiet
import Derived.Deep.RegionWith
import Derived.Deep.DeepCutAuto
namespace Go.Proofs.Ybulkdpsg
open Go Go.RowKit Go.Sort Go.Proofs Go.Lib
set_option linter.unusedVariables false
set_option linter.unusedSimpArgs false
theorem results_ctt {fn : Func} {p u v : Tmp} {ty : TypeId} (h : fn.results = #[.cell p ty, .tmp u, .tmp v]) (tmps : Array Value) (P : Program) (w : World) :
    (results fn tmps).run P w = ((asAddr (tmps.getD p undef)).run P w).andThen fun a w₁ => ((loadVar ty a).run P w₁).andThen fun x w₂ => .ok (.tuple #[x, tmps.getD u undef, tmps.getD v undef]) w₂ := by
  simp only [results, h]
  simp [Sem.run_bind, Result.andThen]
theorem agg3 (w : World) : (isAgg 3).run Yba.prog w = .ok false w := by kernel_rfl
theorem load3 {w : World} {b o : Nat} {x : Value} (h : w.cell? ⟨b, o, none⟩ = some x) : (loadVar 3 ⟨b, o, none⟩).run Yba.prog w = .ok x w := by
  have ha := agg3 w
  simp [loadVar, ha, h, go_sem]
theorem jm_cell {own : Nat → Nat} {w : World} {base bt n bw br nJ nK : Nat} {K : SId} {B : SSt} (h : St own w base bt n bw br nJ nK K B) {j : Nat} (hj : j < nJ) : w.cell? ⟨K.bj, j * 2 + 1, none⟩ = some (.map (some (K.mpj j))) := by
  have := h.rj.cell (i := j * 2 + 1) (by omega)
  rw [this]; unfold jbF; rw [if_neg (by omega), show (j * 2 + 1) / 2 = j by omega]
set_option maxRecDepth 100000 in
set_option maxHeartbeats 4000000 in
theorem warm100 {own : Nat → Nat} {w : World} {base bt n br nJ nK nW sz lm : Nat} {pen : Int} {I : Ids} {S : WSt} {K : SId} {B : SSt} {d : Array Tk} {key : Nat → Nat} (h : St own w base bt n I.bw br nJ nK K B) (hw : WS own w base nW nK sz lm pen I S) (ht : Tks own w bt n nK d key) (j : Nat) (hj : j < nJ) (hkey : ∀ k t, t ∈ B.bk j k → key t = k) :
    Calls Yba.prog 100 #[pn K.bs 0, pn K.bj (j * 2)] w fun e w' => Fr [] w w' ∧ ((e = .returned (.tuple #[.int .i64 0, .int .i64 0, .bool false]) ∧ ∀ k, HeldK nW S k → B.bk j k = []) ∨
      ∃ k t l, HeldK nW S k ∧ B.bk j k = t :: l ∧ (∀ k' t' l', HeldK nW S k' → B.bk j k' = t' :: l' → t ≤ t') ∧ e = .returned (.tuple #[.int .i64 (t : Int), .int .i64 (roomL S.free (S.hold k)), .bool true])) := by
  have mixed := mixedYba
  have hJ4 := h.b1
  have hn2 := ht.b
  have hW4 := hw.b2
  have hK5 := hw.b3
  have hsz3 := hw.b1
  have HH : Hid (St own w base bt n I.bw br nJ nK K B) := h
  have HW : Hid (WS own w base nW nK sz lm pen I S) := hw
  have HT : Hid (Tks own w bt n nK d key) := ht
  have HKEY : Hid (∀ k t, t ∈ B.bk j k → key t = k) := hkey
  have HSt : Hid (Wb w (((w.alloc (.cells #[pn K.bj (j * 2)] 198)).alloc (.cells #[.int .i64 0] 3)).setCell ⟨w.heap.size + 1, 0, none⟩ (.int .i64 (-1))) w.heap.size (w.heap.size + 1) K.bj (j * 2) (-1)) := Wb.start w K.bj (j * 2)
  obtain ⟨Wa, hWa⟩ : ∃ X, (w.alloc (.cells #[pn K.bj (j * 2)] 198)).alloc (.cells #[.int .i64 0] 3) = X := ⟨_, rfl⟩
  obtain ⟨W0, hW0⟩ : ∃ X, Wa.setCell ⟨w.heap.size + 1, 0, none⟩ (.int .i64 (-1)) = X := ⟨_, rfl⟩
  rw [hWa, hW0] at HSt
  have fa : Fr [] w Wa := by rw [← hWa]; exact (Fr.alloc _ _ _).trans (Fr.alloc _ _ _)
  have ra := World.rowIs_alloc (w.alloc (.cells #[pn K.bj (j * 2)] 198)) #[.int .i64 0] 3 (fun _ => .int .i64 0) (fun i hi => by rcases (show i = 0 by simp at hi; omega) with rfl; rfl)
  rw [hWa, show (w.alloc (.cells #[pn K.bj (j * 2)] 198)).heap.size = w.heap.size + 1 by simp] at ra
  have s2a : Wa.cell? ⟨K.bs, 2, none⟩ = some (pn I.bw 0) := fa.cell (h.rs.cell (i := 2) (by omega)) (by simp)
  have cra := ra.cell (i := 0) (by simp)
  have fra := ra.frozen 0
  obtain ⟨op, hop⟩ : ∃ x, x = opn S.free nW := ⟨_, rfl⟩
  have hop4 : op ≤ 4 := by have := opn_le S.free nW; omega
  have w1 : W0.cell? ⟨I.bw, 1, none⟩ = some (.int .i64 (op : Int)) := by rw [hop]; exact HSt.out.fr.cell (hw.rw_.cell (i := 1) (by omega)) (by simp)
  have w3 : W0.cell? ⟨I.bw, 3, none⟩ = some (.int .i64 (sz : Int)) := HSt.out.fr.cell (hw.rw_.cell (i := 3) (by omega)) (by simp)
  have x0 : W0.cell? ⟨w.heap.size, 0, none⟩ = some (pn K.bj (j * 2)) := HSt.out.rx.cell (i := 0) (by omega)
  have jm : W0.cell? ⟨K.bj, j * 2 + 1, none⟩ = some (.map (some (K.mpj j))) := HSt.out.fr.cell (by have := h.rj.cell (i := j * 2 + 1) (by omega); rw [this]; unfold jbF; rw [if_neg (by omega), show (j * 2 + 1) / 2 = j by omega]) (by simp)
  obtain ⟨c, hlen⟩ := ((h.mp j hj).fr HSt.out.fr (by simp)).len under136
  obtain ⟨x, hx⟩ : ∃ x : Nat, x = op * sz := ⟨_, rfl⟩
  have hxb : x ≤ 12 := by rw [hx]; calc op * sz ≤ 4 * 3 := Nat.mul_le_mul hop4 (by omega)
                                     _ = 12 := rfl
  have hxm : (op : Int) * (sz : Int) = (x : Int) := by rw [hx]; exact (Int.natCast_mul _ _).symm
  have hwr : IntKind.i64.wrap ((op : Int) * (sz : Int)) = (x : Int) := by rw [hxm]; rw [IntKind.wrap_i64]; omega
  obtain ⟨bx, hbx⟩ : ∃ b, w.heap.size = b := ⟨_, rfl⟩
  rw [hbx] at HSt hW0 cra fra x0
  have HBX : Hid (w.heap.size = bx) := hbx
  clear ra h hw ht hkey hx hop
  go_enter Yba.func100, Yba.ntmps100
  go_upto_region 4 with fail
  go_quiet (fail)
  go_upto_if 32 with fail
  obtain ⟨Wq, hWq⟩ : ∃ X, X = W0.drewN nq := ⟨_, rfl⟩
  rw [← hWq]
  have HQ : Hid (Wb w Wq bx (bx + 1) K.bj (j * 2) (-1)) := by show Wb _ _ _ _ _ _ _; rw [hWq]; exact HSt.out.step (q := nq) (Or.inr ⟨rfl, rfl⟩)
  clear hWq hW0 hWa s2a cra fra w1 w3 x0 jm hlen hwr hxm fa
  generalize hcb : decide (x ≤ c) = cb
  clear hcb
  go_cut [] (fun wx => ∃ r : Int, Hid (Wb w wx bx (bx + 1) K.bj (j * 2) r ∧ BestOf (B.bk j) (HeldK nW S) r))
  case first =>
    cases cb with
    | true =>
      have c0 : Wq.cell? ⟨I.bw, 0, none⟩ = some (.slice (some ⟨I.bf, 0, none⟩) nW nW) := HQ.out.fr.cell (HW.out.rw_.cell (i := 0) (by omega)) (by simp)
      go_wp2_with fail
      clear c0
      go_loopg [38] nW (fun g iv wr => ∃ v : Nat, iv = .int .i64 (v : Int) ∧ v ≤ nW ∧ ∃ r : Int, Hid (g = nW - v ∧ Wb w wr bx (bx + 1) K.bj (j * 2) r ∧ BestOf (B.bk j) (fun k => ∃ u, u < v ∧ 0 < S.free u ∧ k ∈ (S.els u).map Prod.snd) r))
      case atStart => exact ⟨0, rfl, Nat.zero_le _, -1, by omega, HQ.out, BestOf.start _ _ (fun k ⟨u, hu, _⟩ => by omega)⟩
      case round =>
        obtain ⟨v, rfl, hv, r, HR⟩ := hrel
        by_cases hlt : v < nW
        · have zv : (v : Int) < (nW : Int) := by omega
          have cv : wr.cell? ⟨I.bf, v, none⟩ = some (.int .i64 (S.free v : Int)) := HR.out.2.1.fr.cell (HW.out.rf.cell hlt) (by simp)
          by_cases hf0 : S.free v = 0
          · have HF : Hid (S.free v = 0) := hf0
            rw [hf0] at cv
            clear hf0
            go_wp2_with fail
            go_roundg (nW - (v + 1))
            case measure => have := HR.out.1; omega
            case rel =>
              refine ⟨v + 1, rfl, by omega, r, rfl, HR.out.2.1, HR.out.2.2.congr (fun k _ => ⟨fun ⟨u, a, b, e⟩ => ⟨u, by omega, b, e⟩, fun ⟨u, a, b, e⟩ => ⟨u, ?_, b, e⟩⟩)⟩
              have hF := HF.out
              by_cases e2 : u = v
              · subst e2; omega
              · omega
          · have hf1 : 0 < S.free v := by omega
            have HF : Hid (0 < S.free v) := hf1
            have hd1 : decide ((S.free v : Int) > 0) = true := decide_eq_true (by omega)
            have hd2 : decide ((0 : Int) < (S.free v : Int)) = true := decide_eq_true (by omega)
            have hd3 : decide (0 < S.free v) = true := decide_eq_true (by omega)
            obtain ⟨cm, hrm, hlm⟩ := HW.out.rm
            have c2 : wr.cell? ⟨I.bw, 2, none⟩ = some (.slice (some ⟨I.bm, 0, none⟩) nW nW) := HR.out.2.1.fr.cell (HW.out.rw_.cell (i := 2) (by omega)) (by simp)
            have c5 : wr.cell? ⟨I.bm, v * 6 + 5, none⟩ = some (.map (some (I.mp v))) := HR.out.2.1.fr.cell (by have := hrm.cell (i := v * 6 + 5) (by omega); rw [this, (hlm v hlt).2]) (by simp)
            have HM : Hid (MapF wr (I.mp v) 10000 (elOf (S.els v))) := (HW.out.mapf v hlt).fr HR.out.2.1.fr (by simp)
            obtain ⟨zz, hzz⟩ : ∃ z, wr.heap.size = z := ⟨_, rfl⟩
            have HZ : Hid (wr.heap.size = zz) := hzz
            have HZB : Hid (w.heap.size ≤ zz ∧ zz ≠ bx ∧ zz ≠ bx + 1 ∧ I.mp v < w.heap.size) := by
              have a1 := HR.out.2.1.rx.lt
              have a2 := HR.out.2.1.rb.lt
              have a3 := HR.out.2.1.fr.size
              have a4 := (HW.out.mapf v hlt).lt
              exact ⟨by omega, by omega, by omega, a4⟩
            clear hzz hf0 hf1 hrm hlm
            go_wp2_with (first | (at_range; refine wpList_rangeF wr rfl _ 112 rfl 113 under112 (I.mp v) 10000 (elOf (S.els v)) rfl HM.out zz HZ.out ?_; intro w2 cnt hrg hf2 hs2; have HRG : Hid (RngF w2 (I.mp v) zz 10000 (elOf (S.els v)) (fun k => (elOf (S.els v) k).isSome) cnt ∧ Fr [] wr w2) := ⟨hrg, hf2⟩; clear hrg hf2 hs2))
            go_frame
            clear cv c2 c5 hd1 hd2 hd3
            go_loopg [11] cnt (fun g kv wr2 => ∃ (left : Nat → Bool) (r2 : Int), Hid (RngF wr2 (I.mp v) zz 10000 (elOf (S.els v)) left g ∧ Wb w wr2 bx (bx + 1) K.bj (j * 2) r2 ∧ BestOf (B.bk j) (fun k => (∃ u, u < v ∧ 0 < S.free u ∧ k ∈ (S.els u).map Prod.snd) ∨ (k ∈ (S.els v).map Prod.snd ∧ left k = false)) r2 ∧ ∀ k, left k = true → k ∈ (S.els v).map Prod.snd))
            case atStart =>
              refine ⟨_, r, HRG.out.1, HR.out.2.1.other HRG.out.2 (by simp), HR.out.2.2.congr (fun k _ => ⟨Or.inl, fun hh => ?_⟩), fun k hk => (elOf_isSome _ _).1 hk⟩
              rcases hh with hh | ⟨h1, h2⟩
              · exact hh
              · have := (elOf_isSome (S.els v) k).2 h1; rw [this] at h2; cases h2
            case round =>
              obtain ⟨left, r2, HR2⟩ := hrel
              obtain ⟨gk2, hgk2⟩ : ∃ x, x = gk := ⟨_, rfl⟩
              have HG2 : Hid (gk2 = gk) := hgk2
              rw [← hgk2] at HR2
              clear hgk2
              have c102 := cf102
              go_wp2_with (first | (at_next; refine wpList_nextF wr rfl _ rfl (I.mp v) zz 10000 _ left gk2 rfl HR2.out.1 ?_ ?_))
              · intro hl0
                have HL0 : Hid (∀ k, k < 10000 → left k = false) := hl0
                clear hl0
                go_wp2_with fail
                go_roundg (nW - (v + 1))
                case measure => have := HR.out.1; omega
                case rel =>
                  refine ⟨v + 1, rfl, by omega, r2, rfl, HR2.out.2.1, HR2.out.2.2.1.congr (fun k _ => ⟨fun hh => ?_, fun hh => ?_⟩)⟩
                  · rcases hh with ⟨u, a, b, e⟩ | ⟨a, _⟩
                    · exact ⟨u, by omega, b, e⟩
                    · exact ⟨v, by omega, HF.out, a⟩
                  · obtain ⟨u, a, b, e⟩ := hh
                    by_cases e2 : u = v
                    · subst e2
                      obtain ⟨x, hx1, hx2⟩ := List.mem_map.1 e
                      have := HW.out.kl u hlt x hx1
                      exact Or.inr ⟨e, HL0.out k (by omega)⟩
                    · exact Or.inl ⟨u, by omega, b, e⟩
              · intro k u w3 cnt' hk hlk hrg' hlt' hf3 hs3 hen
                have HWB3 : Hid (Wb w w3 bx (bx + 1) K.bj (j * 2) r2) := HR2.out.2.1.other hf3 (by intro b hb; simp at hb; subst hb; exact ⟨HZB.out.1, HZB.out.2.1, HZB.out.2.2.1⟩)
                have HRG3 : Hid (RngF w3 (I.mp v) zz 10000 (elOf (S.els v)) (fun x => left x && !decide (x = k)) cnt' ∧ cnt' < gk2 ∧ left k = true) := ⟨hrg', hlt', hlk⟩
                have hkK : B.bk j k ≠ [] → k < nK := fun hne => by
                  rcases Nat.lt_or_ge k nK with z | z
                  · exact z
                  · exact absurd (HH.out.kd j hj k z) hne
                have hcon := consider102 (w := w3) (base := base) (K := K) (B := B) j k bx (bx + 1) r2 (by omega) hk (HWB3.out.rx.cell (i := 0) (by omega)) (HWB3.out.fr.cell (jm_cell HH.out hj) (by simp)) ((HH.out.mp j hj).fr HWB3.out.fr (by simp)) (fun hne => (HH.out.qk j hj k (hkK hne) hne).fr HWB3.out.fr (by simp)) (HWB3.out.rb.cell (i := 0) (by omega)) (HWB3.out.rb.frozen 0)
                clear hkK
                clear hlk hrg' hlt' hf3 hs3
                go_wp2_with (first | (go_at_call 102; refine hcon.mono ?_; clear hcon; rintro e w4 ⟨rfl, q, hw4⟩; have HW4 : Hid (w4 = (w3.setCell ⟨bx + 1, 0, none⟩ (.int .i64 (conT r2 (B.bk j k)))).drewN q ∨ (w4 = w3.drewN q ∧ conT r2 (B.bk j k) = r2)) := hw4; clear hw4))
                go_roundg cnt'
                case measure => have := HRG3.out.2.1; have := HG2.out; omega
                case rel =>
                  have f4 : Fr [bx + 1] w3 w4 := by
                    rcases HW4.out with rfl | ⟨rfl, _⟩
                    · exact (Fr.setCell _ _ _ (by simp)).trans (Fr.drewN _ _ _)
                    · exact Fr.drewN _ _ _
                  have hz := HZB.out
                  have hnb := HWB3.out.nb
                  refine ⟨_, conT r2 (B.bk j k), HRG3.out.1.fr f4 (by simp; omega) (by simp; omega), HWB3.out.step HW4.out, (HR2.out.2.2.1.step k).congr (fun x _ => ⟨fun hh => ?_, fun hh => ?_⟩), fun x hx => HR2.out.2.2.2 x (by simp at hx; exact hx.1)⟩
                  · rcases hh with (hh | ⟨a, b⟩) | rfl
                    · exact Or.inl hh
                    · exact Or.inr ⟨a, by simp [b]⟩
                    · exact Or.inr ⟨HR2.out.2.2.2 x HRG3.out.2.2, by simp⟩
                  · rcases hh with hh | ⟨a, b⟩
                    · exact Or.inl (Or.inl hh)
                    · by_cases e : x = k
                      · exact Or.inr e
                      · simp [e] at b; exact Or.inl (Or.inr ⟨a, b⟩)
        · have ev : v = nW := by omega
          subst ev
          go_wp2
          go_meet
          exact ⟨r, HR.out.2.1, HR.out.2.2⟩
    | false =>
      have x0 : Wq.cell? ⟨bx, 0, none⟩ = some (pn K.bj (j * 2)) := HQ.out.rx.cell (i := 0) (by omega)
      have jm : Wq.cell? ⟨K.bj, j * 2 + 1, none⟩ = some (.map (some (K.mpj j))) := HQ.out.fr.cell (jm_cell HH.out hj) (by simp)
      have HM : Hid (MapF Wq (K.mpj j) 10000 (bkF K B j)) := (HH.out.mp j hj).fr HQ.out.fr (by simp)
      obtain ⟨zz, hzz⟩ : ∃ z, Wq.heap.size = z := ⟨_, rfl⟩
      have HZ : Hid (Wq.heap.size = zz) := hzz
      have HZB : Hid (w.heap.size ≤ zz ∧ zz ≠ bx ∧ zz ≠ bx + 1 ∧ K.mpj j < w.heap.size) := by
        have a1 := HQ.out.rx.lt
        have a2 := HQ.out.rb.lt
        have a3 := HQ.out.fr.size
        have a4 := (HH.out.mp j hj).lt
        exact ⟨by omega, by omega, by omega, a4⟩
      have HSM : Hid (∀ k, (bkF K B j k).isSome = true ↔ B.bk j k ≠ []) := fun k => by
        unfold bkF
        by_cases e : B.bk j k = []
        · rw [if_pos e]; simp [e]
        · rw [if_neg e]; simp [e]
      clear hzz
      go_wp2_with (first | (at_range; refine wpList_rangeF Wq rfl _ 136 rfl 48 under136 (K.mpj j) 10000 (bkF K B j) rfl HM.out zz HZ.out ?_; intro w2 cnt hrg hf2 hs2; have HRG : Hid (RngF w2 (K.mpj j) zz 10000 (bkF K B j) (fun k => (bkF K B j k).isSome) cnt ∧ Fr [] Wq w2) := ⟨hrg, hf2⟩; clear hrg hf2 hs2))
      go_frame
      clear x0 jm
      go_loopg [12] cnt (fun g kv wr2 => ∃ (left : Nat → Bool) (r2 : Int), Hid (RngF wr2 (K.mpj j) zz 10000 (bkF K B j) left g ∧ Wb w wr2 bx (bx + 1) K.bj (j * 2) r2 ∧ BestOf (B.bk j) (fun k => HeldK nW S k ∧ left k = false) r2 ∧ ∀ k, left k = true → B.bk j k ≠ []))
      case atStart =>
        refine ⟨_, -1, HRG.out.1, HQ.out.other HRG.out.2 (by simp), (BestOf.start (B.bk j) (fun _ => False) (fun _ h => h)).congr (fun k hk => ⟨False.elim, fun hh => ?_⟩), fun k hk => (HSM.out k).1 hk⟩
        have := (HSM.out k).2 hk
        rw [this] at hh; exact absurd hh.2 (by simp)
      case round =>
        obtain ⟨left, r2, HR2⟩ := hrel
        obtain ⟨gk2, hgk2⟩ : ∃ x, x = gk := ⟨_, rfl⟩
        have HG2 : Hid (gk2 = gk) := hgk2
        rw [← hgk2] at HR2
        clear hgk2
        have c102 := cf102
        go_wp2_with (first | (at_next; refine wpList_nextF wr rfl _ rfl (K.mpj j) zz 10000 _ left gk2 rfl HR2.out.1 ?_ ?_))
        · intro hl0
          have HL0 : Hid (∀ k, k < 10000 → left k = false) := hl0
          clear hl0
          go_wp2_with fail
          go_meet
          refine ⟨r2, HR2.out.2.1, HR2.out.2.2.1.congr (fun k hk => ⟨fun hh => hh.1, fun hh => ⟨hh, HL0.out k ?_⟩⟩)⟩
          rcases Nat.lt_or_ge k nK with z | z
          · omega
          · exact absurd (HH.out.kd j hj k z) hk
        · intro k u w3 cnt' hk hlk hrg' hlt' hf3 hs3 hen
          have HWB3 : Hid (Wb w w3 bx (bx + 1) K.bj (j * 2) r2) := HR2.out.2.1.other hf3 (by intro b hb; simp at hb; subst hb; exact ⟨HZB.out.1, HZB.out.2.1, HZB.out.2.2.1⟩)
          have HRG3 : Hid (RngF w3 (K.mpj j) zz 10000 (bkF K B j) (fun x => left x && !decide (x = k)) cnt' ∧ cnt' < gk2 ∧ left k = true) := ⟨hrg', hlt', hlk⟩
          have hne : B.bk j k ≠ [] := HR2.out.2.2.2 k hlk
          have hkK : k < nK := by
            rcases Nat.lt_or_ge k nK with z | z
            · exact z
            · exact absurd (HH.out.kd j hj k z) hne
          have HNE : Hid (B.bk j k ≠ []) := hne
          have ws3 : WS own w3 base nW nK sz lm pen I S := HW.out.kept (T := fun _ => False) ⟨HWB3.out.fr.os, HWB3.out.fr.tape, HWB3.out.fr.output, HWB3.out.fr.size, fun k hk _ => HWB3.out.fr.block k hk (by simp)⟩ (OwnUp.refl _ _) (fun x hx => hx.elim)
          have hhe := held103 ws3 hkK
          have HHE := held_any ws3 hkK
          clear hlk hrg' hlt' hf3 hs3 hne ws3
          cases hany : (S.hold k).any (opB S.free) with
          | true =>
            rw [hany] at hhe HHE
            have HHK : Hid (HeldK nW S k) := HHE.1 rfl
            clear HHE hany
            go_wp2_with (first | (go_at_call 103; refine hhe.mono ?_; clear hhe; rintro e w4 ⟨rfl, hf4⟩; have HF4 : Hid (Fr [] w3 w4) := hf4; clear hf4; have HWB4 : Hid (Wb w w4 bx (bx + 1) K.bj (j * 2) r2) := HWB3.out.other HF4.out (by simp); have hcon := consider102 (w := w4) (base := base) (K := K) (B := B) j k bx (bx + 1) r2 (by omega) hk (HWB4.out.rx.cell (i := 0) (by omega)) (HWB4.out.fr.cell (jm_cell HH.out hj) (by simp)) ((HH.out.mp j hj).fr HWB4.out.fr (by simp)) (fun hne => (HH.out.qk j hj k hkK hne).fr HWB4.out.fr (by simp)) (HWB4.out.rb.cell (i := 0) (by omega)) (HWB4.out.rb.frozen 0)) | (go_at_call 102; refine hcon.mono ?_; clear hcon; rintro e w5 ⟨rfl, q, hw5⟩; have HW5 : Hid (w5 = (w4.setCell ⟨bx + 1, 0, none⟩ (.int .i64 (conT r2 (B.bk j k)))).drewN q ∨ (w5 = w4.drewN q ∧ conT r2 (B.bk j k) = r2)) := hw5; clear hw5))
            go_roundg cnt'
            case measure => have := HRG3.out.2.1; have := HG2.out; omega
            case rel =>
              have f5 : Fr [bx + 1] w4 w5 := by
                rcases HW5.out with rfl | ⟨rfl, _⟩
                · exact (Fr.setCell _ _ _ (by simp)).trans (Fr.drewN _ _ _)
                · exact Fr.drewN _ _ _
              have hz := HZB.out
              have hnb := HWB4.out.nb
              refine ⟨_, conT r2 (B.bk j k), (HRG3.out.1.fr HF4.out (by simp) (by simp)).fr f5 (by simp; omega) (by simp; omega), HWB4.out.step HW5.out, (HR2.out.2.2.1.step k).congr (fun x _ => ⟨fun hh => ?_, fun hh => ?_⟩), fun x hx => HR2.out.2.2.2 x (by simp at hx; exact hx.1)⟩
              · rcases hh with ⟨a, b⟩ | rfl
                · exact ⟨a, by simp [b]⟩
                · exact ⟨HHK.out, by simp⟩
              · by_cases e : x = k
                · exact Or.inr e
                · simp [e] at hh; exact Or.inl hh
          | false =>
            rw [hany] at hhe HHE
            have HHK : Hid (¬ HeldK nW S k) := fun hh => by have := HHE.2 hh; cases this
            clear HHE hany
            go_wp2_with (first | (go_at_call 103; refine hhe.mono ?_; clear hhe; rintro e w4 ⟨rfl, hf4⟩; have HF4 : Hid (Fr [] w3 w4) := hf4; clear hf4))
            go_roundg cnt'
            case measure => have := HRG3.out.2.1; have := HG2.out; omega
            case rel =>
              refine ⟨_, r2, HRG3.out.1.fr HF4.out (by simp) (by simp), HWB3.out.other HF4.out (by simp), HR2.out.2.2.1.congr (fun x _ => ⟨fun hh => ⟨hh.1, by simp [hh.2]⟩, fun hh => ⟨hh.1, ?_⟩⟩), fun x hx => HR2.out.2.2.2 x (by simp at hx; exact hx.1)⟩
              by_cases e : x = k
              · subst e; exact absurd hh.1 HHK.out
              · have := hh.2; simp [e] at this; exact this
  case rest =>
  obtain ⟨r, HC⟩ := hcut
  have cb : wc.cell? ⟨bx + 1, 0, none⟩ = some (.int .i64 r) := HC.out.1.rb.cell (i := 0) (by omega)
  have fb := HC.out.1.rb.frozen 0
  rcases HC.out.2 with ⟨hr, hall⟩ | ⟨k, t, l, hh1, hh2, hh3, hh4⟩
  · have HALL : Hid (∀ k, HeldK nW S k → B.bk j k = []) := hall
    rw [hr] at cb
    clear hall hr
    obtain ⟨W9, hW9⟩ : ∃ X, wc.setCell ⟨bx + 1, 0, none⟩ (.int .i64 0) = X := ⟨_, rfl⟩
    have HW9 : Hid (Wb w W9 bx (bx + 1) K.bj (j * 2) 0) := HC.out.1.step (q := 0) (Or.inl (by rw [← hW9]; rfl))
    have c9 : W9.cell? ⟨bx + 1, 0, none⟩ = some (.int .i64 0) := HW9.out.rb.cell (i := 0) (by omega)
    go_wp2
    (try simp only [Exit.inBlock, Exit.then])
    refine bodyPost_ret (v := .tuple #[.int .i64 0, .int .i64 0, .bool false]) ?_ rfl ?_
    · rw [results_ctt rfl]; first | go_simp | (simp [asAddr, load3 c9, Result.andThen]; done)
    exact ⟨HW9.out.fr, Or.inl ⟨rfl, HALL.out⟩⟩
  · have HX : Hid (HeldK nW S k ∧ B.bk j k = t :: l ∧ ∀ k' t' l', HeldK nW S k' → B.bk j k' = t' :: l' → t ≤ t') := ⟨hh1, hh2, hh4⟩
    have htn : t < n := HH.out.kn j hj k t (by rw [hh2]; simp)
    have hkt : key t = k := HKEY.out k t (by rw [hh2]; simp)
    have hkK : k < nK := by rw [← hkt]; exact (HT.out.key_ t htn).2
    rw [hh3] at cb
    have hdt : decide ((t : Int) < 0) = false := decide_eq_false (by omega)
    obtain ⟨_, _, ck, _, _⟩ := cellT HT.out.holds (show t < d.size by rw [HT.out.size]; exact htn)
    rw [(HT.out.key_ t htn).1, hkt] at ck
    have ck' := HC.out.1.fr.cell ck (by simp)
    have s1 : wc.cell? ⟨K.bs, 1, none⟩ = some (.slice (some ⟨bt, 0, none⟩) n n) := HC.out.1.fr.cell (HH.out.rs.cell (i := 1) (by omega)) (by simp)
    have zt : (t : Int) < (n : Int) := by omega
    have wsc : WS own wc.drew base nW nK sz lm pen I S := HW.out.kept (T := fun _ => False) ⟨HC.out.1.fr.os, HC.out.1.fr.tape, HC.out.1.fr.output, HC.out.1.fr.size, fun k hk _ => HC.out.1.fr.block k hk (by simp)⟩ (OwnUp.refl _ _) (fun x hx => hx.elim)
    have hroom := room_key wsc hkK
    have HRM : Hid (Wb w wc bx (bx + 1) K.bj (j * 2) (t : Int)) := by have := HC.out.1; rw [hh3] at this; exact this
    clear hh1 hh2 hh3 hh4 hkt ck wsc HC
    go_wp2_with fail
    go_region_with (first | (go_at_call 101; refine hroom.mono ?_; clear hroom; rintro e w4 ⟨rfl, hf4⟩; have HF4 : Hid (Fr [] wc w4) := ⟨hf4.os, hf4.tape, hf4.output, hf4.size, hf4.block⟩; clear hf4; have HW4 : Hid (Wb w w4 bx (bx + 1) K.bj (j * 2) (t : Int)) := HRM.out.other HF4.out (by simp); have cb4 := HW4.out.rb.cell (i := 0) (by omega); have fb4 := HW4.out.rb.frozen 0))
    all_goals
      obtain ⟨W9, hW9⟩ : ∃ X, w4.setCell ⟨bx + 1, 0, none⟩ (.int .i64 (t : Int)) = X := ⟨_, rfl⟩
      have HW9 : Hid (Wb w W9 bx (bx + 1) K.bj (j * 2) (t : Int)) := HW4.out.step (q := 0) (Or.inl (by rw [← hW9]; rfl))
      have c9 : W9.cell? ⟨bx + 1, 0, none⟩ = some (.int .i64 (t : Int)) := HW9.out.rb.cell (i := 0) (by omega)
      go_wp2
      (try simp only [Exit.inBlock, Exit.then])
      refine bodyPost_ret (v := .tuple #[.int .i64 (t : Int), .int .i64 (roomL S.free (S.hold k)), .bool true]) ?_ rfl ?_
      · rw [results_ctt rfl]; first | go_simp | (simp [asAddr, load3 c9, Result.andThen]; done)
      obtain ⟨x1, x2, x3⟩ := HX.out
      exact ⟨HW9.out.fr, Or.inr ⟨k, t, l, x1, x2, x3, rfl⟩⟩
end Go.Proofs.Ybulkdpsg

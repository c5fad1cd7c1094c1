/- S5830C: replay: the walk (written by a program for either placement). -/
import Derived.Test.YbulkdpsgX2b
import Derived.Test.YbulkdpsgN0
import Derived.Deep.CutBlock
namespace Go.Proofs.Ybulkdpsg
open Go Go.RowKit Go.Sort Go.Proofs Go.Lib
set_option linter.unusedVariables false
set_option linter.unusedSimpArgs false
namespace Rpp
def z4 : Array Value := #[.int .i64 0, .int .i64 0, .int .i64 0, .bool false]
theorem mk68 (n : Nat) (hn : n ≤ 5000) (w : World) : (Instr.makeSlice 68 (.int .i64 (n : Int)) (.int .i64 (n : Int))).run Yba.prog w = .ok (.slice (some ⟨w.heap.size, 0, none⟩) n n) (w.alloc (.cells (madeCells z4 (n * 4)) 79)) := run_makeK 68 79 z4 4 32 Yba.underlying68 i79 n (by omega) (by omega) w
set_option maxRecDepth 100000 in
theorem mde (x : Value) (w : World) : (method 310 91 x "example.com/slotwright/slotwright/internal/simulate.ended").run Yba.prog w = .ok (95, x) w := by kernel_rfl
set_option maxRecDepth 100000 in
theorem mda (x : Value) (w : World) : (method 310 91 x "example.com/slotwright/slotwright/internal/simulate.arrive").run Yba.prog w = .ok (94, x) w := by kernel_rfl
set_option maxRecDepth 100000 in
theorem mdn (x : Value) (w : World) : (method 310 91 x "example.com/slotwright/slotwright/internal/simulate.next").run Yba.prog w = .ok (96, x) w := by kernel_rfl
theorem cfe (args : Array Value) (w : World) : (callFunc 95 args).run Yba.prog w = .ok (.enter 95 args) w := by kernel_rfl
theorem cfa (args : Array Value) (w : World) : (callFunc 94 args).run Yba.prog w = .ok (.enter 94 args) w := by kernel_rfl
theorem cfn (args : Array Value) (w : World) : (callFunc 96 args).run Yba.prog w = .ok (.enter 96 args) w := by kernel_rfl
theorem fld142 (x y : Int) (w : World) : (Instr.field 142 (.agg #[.int .i64 x, .int .i64 y]) 1).run Yba.prog w = .ok (.int .i64 y) w := by kernel_rfl
def RepPost (PL : (Nat → Nat) → World → MS → Prop) (A : Par) (ρ : Nat → Nat) (own : Nat → Nat) (w : World) (e : Ending) (w' : World) : Prop := ∃ bru z own', e = .returned (.slice (some ⟨bru, 0, none⟩) A.n A.n) ∧ Run A MS.init z ∧ MI A z ∧ (∀ i, i < A.n → z.ended i = true) ∧ Runs w' bru A ρ z ∧ PL own' w' z ∧ OwnUp w own own' ∧ FrT own (fun x => x ≠ 0) w w' ∧ w.heap.size ≤ bru
theorem start0 {PL : (Nat → Nat) → World → MS → Prop} {base bt bw : Nat} {A : Par} {d : Array Tk} {ρ own : Nat → Nat} {w : World} {I : Ids} {S : WSt} (hK : PLk PL) (ws : WS own w base A.nW A.nK A.sz A.sz (A.pd : Int) I S) (hbw : I.bw = bw) (wr : WRel A MS.init S) (tk : Tks own w bt A.n A.nK d A.key) (pl : PL own w MS.init) (hb : base ≤ w.heap.size) :
    PhR PL base bt w.heap.size (w.heap.size + 1) A d ρ bw own w ((w.alloc (.cells (madeCells z4 (A.n * 4)) 79)).alloc (.cells #[.slice none 0 0] 140)) 0 (fun s dq => OutΦ A 0 0 (2 * A.n + 1) s ∧ dq.size = 0) := by
  have r1 := rowIs_madeK w z4 (A.n * 4) 79
  have r2 := World.rowIs_alloc (w.alloc (.cells (madeCells z4 (A.n * 4)) 79)) #[.slice none 0 0] 140 (fun _ => .slice none 0 0) (fun i hi => by rcases (show i = 0 by simp at hi; omega) with rfl; rfl)
  rw [show (w.alloc (.cells (madeCells z4 (A.n * 4)) 79)).heap.size = w.heap.size + 1 by simp] at r2
  have f : Fr [] w ((w.alloc (.cells (madeCells z4 (A.n * 4)) 79)).alloc (.cells #[.slice none 0 0] 140)) := (Fr.alloc _ _ _).trans (Fr.alloc _ _ _)
  have f0 : FrT own (fun _ => False) w ((w.alloc (.cells (madeCells z4 (A.n * 4)) 79)).alloc (.cells #[.slice none 0 0] 140)) := ⟨f.os, f.tape, f.output, f.size, fun k hk _ => f.block k hk (by simp)⟩
  have hu : OwnUp w own (fun b => if b < w.heap.size then own b else if b = w.heap.size then 200 else 201) := fun b hb => if_pos hb
  have hm : meas A MS.init ≤ 2 * A.n := meas_le _ _
  refine ⟨_, MS.init, I, S, .slice none 0 0, #[], ⟨ws.kept f0 hu (fun x hx => hx.elim), hbw, wr, tk.kept f0 hu (fun hx => hx), hK.kept pl f0 hu (fun x hx => hx.elim), ⟨_, r1.alloc _, fun t _ hs => by cases hs⟩, ⟨r2, ⟨by simp [flE_len], Or.inl ⟨rfl, rfl⟩⟩, fun k hk => by simp [Value.ownBlock] at hk, fun k h1 h2 => by simp at h2⟩, ?_, ?_, ?_, fun b hb => by simp [Value.ownBlock] at hb, MI.init A, by have := f.size; omega, fun i => ⟨(fun h => by cases h), (fun h => by omega)⟩, Nat.zero_le _⟩, ⟨⟨rfl, fun z hz => hz, (fun i _ h _ => by cases h), fun i _ _ => Nat.zero_le _, by omega, Or.inr (by omega)⟩, rfl⟩, hu, f0.mono (fun x hx => hx.elim)⟩
  · rw [(flt_nil (p := running MS.init)).2 (fun i _ => rfl)]; simp
  · show (if _ then _ else _) = _; rw [if_neg (by omega), if_pos rfl]
  · show (if _ then _ else _) = _; rw [if_neg (by omega), if_neg (by omega)]
set_option maxRecDepth 100000 in
set_option maxHeartbeats 16000000 in
theorem replay25 {PL : (Nat → Nat) → World → MS → Prop} {base bt bw pb : Nat} {A : Par} {d : Array Tk} {ρ own : Nat → Nat} {w : World} {I : Ids} {S : WSt} (hPB : PB A) (hTA : TA A d ρ) (hinj : ∀ i j, i < A.n → j < A.n → ρ i = ρ j → i = j) (hsort : ∀ i j, i ≤ j → j < A.n → A.arr i ≤ A.arr j) (hK : PLk PL)
    (hA : ∀ {own : Nat → Nat} {w : World} {s : MS} (t : Nat), PL own w s → Tks own w bt A.n A.nK d A.key → base ≤ w.heap.size → t < A.n → s.arrived t = false → s.started t = false → (∀ i, s.arrived i = true → i < t) → Calls Yba.prog 94 #[pn pb 0, .int .i64 (t : Int)] w fun e w' => ArrPost PL own w s t e w')
    (hE : ∀ {own : Nat → Nat} {w : World} {s : MS} (t : Nat), PL own w s → Tks own w bt A.n A.nK d A.key → t < A.n → s.started t = true → s.ended t = false → Calls Yba.prog 95 #[pn pb 0, .int .i64 (t : Int)] w fun e w' => EndPost PL own w s t e w')
    (hN : ∀ {own : Nat → Nat} {w : World} {s : MS} {I : Ids} {S : WSt}, MI A s → PL own w s → Tks own w bt A.n A.nK d A.key → WS own w base A.nW A.nK A.sz A.sz (A.pd : Int) I S → I.bw = bw → WRel A s S → (∃ v, v < A.nW ∧ 0 < fr A s v) → Calls Yba.prog 96 #[pn pb 0, .int .i64 (s.now : Int)] w fun e w' => NextPost PL A own w s e w')
    (ws : WS own w base A.nW A.nK A.sz A.sz (A.pd : Int) I S) (hbw : I.bw = bw) (wr : WRel A MS.init S) (tk : Tks own w bt A.n A.nK d A.key) (pl : PL own w MS.init) (hb : base ≤ w.heap.size) :
    Calls Yba.prog 25 #[.slice (some ⟨bt, 0, none⟩) A.n A.n, pn bw 0, .iface 91 (pn pb 0)] w fun e w' => RepPost PL A ρ own w e w' := by
  have mixed := mixedYba
  have hn : A.n ≤ 2048 := hPB.b1
  have HPB : Hid (PB A) := hPB
  have HTA : Hid (TA A d ρ) := hTA
  have HPL : Hid (PLk PL) := hK
  have HINJ : Hid (∀ i j, i < A.n → j < A.n → ρ i = ρ j → i = j) := hinj
  have HSORT : Hid (∀ i j, i ≤ j → j < A.n → A.arr i ≤ A.arr j) := hsort
  have HA : Hid _ := @hA
  have HE : Hid _ := @hE
  have HN : Hid _ := @hN
  have HST : Hid (PhR PL base bt w.heap.size (w.heap.size + 1) A d ρ bw own w ((w.alloc (.cells (madeCells z4 (A.n * 4)) 79)).alloc (.cells #[.slice none 0 0] 140)) 0 (fun s dq => OutΦ A 0 0 (2 * A.n + 1) s ∧ dq.size = 0)) := start0 hK ws hbw wr tk pl hb
  have mk := mk68 A.n (by omega)
  obtain ⟨W0, hW0⟩ : ∃ X, (w.alloc (.cells (madeCells z4 (A.n * 4)) 79)).alloc (.cells #[.slice none 0 0] 140) = X := ⟨_, rfl⟩
  rw [hW0] at HST
  obtain ⟨bru, hbru⟩ : ∃ b, w.heap.size = b := ⟨_, rfl⟩
  have HBR : Hid (w.heap.size = bru) := hbru
  rw [hbru] at HST
  obtain ⟨bs, hbs⟩ : ∃ b, bru + 1 = b := ⟨_, rfl⟩
  rw [hbs] at HST
  clear hPB hTA hK hinj hsort hA hE hN ws wr tk pl hb
  go_enter Yba.func25, Yba.ntmps25
  go_wp2_with fail
  go_loopg [9, 10] (2 * A.n + 1) (fun g v9 v10 wr => ∃ now a : Nat, v9 = .int .i64 (now : Int) ∧ v10 = .int .i64 (a : Int) ∧ Hid (PhR PL base bt bru bs A d ρ bw own w wr a (fun s dq => OutΦ A a now g s)))
  case atStart =>
    obtain ⟨own1, s, I1, S1, vq, dq, h1, h2, h3, h4⟩ := HST.out
    exact ⟨0, 0, rfl, rfl, own1, s, I1, S1, vq, dq, h1, h2.1, h3, h4⟩
  case round =>
  obtain ⟨now, a, rfl, rfl, HR⟩ := hrel
  obtain ⟨own0, s, I0, S0, vq0, dq0, hri0, hO0, hup0, hfr0⟩ := HR.out
  have HO : Hid (OutΦ A a now gk s) := hO0
  have HMI : Hid (MI A s) := hri0.mi
  have HR1 : Hid (PhR PL base bt bru bs A d ρ bw own w wr a (fun s' dq => EndsTo s s' ∧ dq.size = dq0.size)) := ⟨own0, s, I0, S0, vq0, dq0, hri0, ⟨EndsTo.refl s, rfl⟩, hup0, hfr0⟩
  clear hri0 hO0 hup0 hfr0 HR
  go_upto_block 2 with fail
  go_cut [] (fun wx => Hid (PhR PL base bt bru bs A d ρ bw own w wx a (fun s' dq => s' = endAll s)))
  case first =>
    go_wp2_with fail
    go_loopg [11] dq0.size (fun g u wr2 => Hid (PhR PL base bt bru bs A d ρ bw own w wr2 a (fun s' dq => EndsTo s s' ∧ dq.size = g)))
    case atStart => exact HR1.out
    case round =>
      obtain ⟨own1, s1, I1, S1, vq, dq, ri, ⟨hEn, hdz⟩, hu1, hf1⟩ := hrel.out
      have HRI : Hid (RI PL base bt bru bs A d ρ bw own1 wr s1 I1 S1 vq dq a ∧ EndsTo s s1 ∧ dq.size = gk ∧ OwnUp w own own1 ∧ FrT own (fun x => x ≠ 0) w wr) := ⟨ri, hEn, hdz, hu1, hf1⟩
      obtain ⟨ad, cap, hvq, hroot⟩ := hq_form ri.hq
      have cs : wr.cell? ⟨bs, 0, none⟩ = some (.slice ad dq.size cap) := by rw [← hvq]; exact ri.hq.var.cell (i := 0) (by omega)
      have hnow1 : s1.now = now := by obtain ⟨E, e, _⟩ := hEn; rw [e]; exact HO.out.nw
      by_cases hz : dq.size = 0
      · rw [hz] at cs
        have HZ : Hid (dq.size = 0) := hz
        clear ri hEn hdz hu1 hf1 hvq hroot hz hnow1 hrel
        go_wp2
        go_meet
        obtain ⟨ri, hEn, _, hu1, hf1⟩ := HRI.out
        exact ⟨own1, s1, I1, S1, vq, dq, ri, ends_done hEn ri (Or.inl HZ.out) (fun i h1 h2 h3 => by rw [HO.out.nw]; exact HO.out.tt1 i h1 h2 h3), hu1, hf1⟩
      · obtain ⟨t, ht1, ht2, ht3, ht4, ht5⟩ := ri.root (by omega)
        obtain ⟨gg, rfl, cg0, cg1⟩ := hroot (by omega)
        rw [ht4] at cg0 cg1
        have cg0' : wr.cell? ⟨gg, 0, none⟩ = some (.int .i64 (s1.en t : Int)) := cg0
        obtain ⟨m, hm⟩ : ∃ m, dq.size = m + 1 := ⟨dq.size - 1, by omega⟩
        have hm2 : m + 1 ≤ 2048 := by have := ri.size; omega
        rw [hm] at cs
        by_cases het : s1.en t = now
        · rw [het] at cg0'
          have hpop0 := pop36 base bs m vq dq wr ri.hq hm (by omega)
          rw [ht4] at hpop0
          have hpop : Calls Yba.prog 36 #[.iface 144 (.pointer (some ⟨bs, 0, none⟩))] wr fun e w' => e = .returned (.iface 142 (.agg #[.int .i64 (s1.en t : Int), .int .i64 (t : Int)])) ∧ ∃ d' v', Hq w' base bs v' d' ∧ d'.size = m ∧ dq.toList.Perm (enT s1 t :: d'.toList) ∧ v'.ownBlock = vq.ownBlock ∧ Fr (bs :: vq.ownBlock.toList) wr w' := hpop0
          rw [het] at hpop
          have hfree : S1.free (s1.wk t) ≤ 2 := by
            have hv := ri.mi.fw t ht2
            rw [ri.wr.free _ hv]
            have : 0 < cnt A.n (runs s1 (s1.wk t)) := cnt_pos.2 ⟨t, ht1, by simp [runs, ht2, ht3]⟩
            have := HPB.out.b3
            unfold fr; omega
          have HET : Hid (s1.en t = now ∧ s1.now = now ∧ gk = m + 1) := ⟨het, hnow1, by omega⟩
          have HT2 : Hid (s1.started t = true ∧ s1.ended t = false) := ⟨ht2, ht3⟩
          have tA := ta142
          have fA := fld142
          have m1 := mde
          have m2 := cfe
          have zt : (t : Int) < (A.n : Int) := by omega
          clear hEn hdz hu1 hf1 hvq hroot hz hnow1 ht4 ht5 cg0 cg1 het hpop0 hm hrel
          go_wp2_with (first | (go_at_call 36; refine hpop.mono ?_; clear hpop; rintro e w1 ⟨rfl, d1, v1, q1, q2, q3, q4, q5⟩; have f1 : FrT own1 (fun x => x = 201 ∨ x = 202) wr w1 := FrT.of q5 (fun b _ hb => by rcases List.mem_cons.1 hb with rfl | hb; exact Or.inl ri.o2; simp at hb; exact Or.inr (ri.o3 b hb)); have ws1 := ri.ws.kept f1 (OwnUp.refl _ _) (fun x hx => by omega); have tk1 := ri.tk.kept f1 (OwnUp.refl _ _) (by omega); have pl1 := HPL.out.kept ri.pl f1 (OwnUp.refl _ _) (fun x hx hh => by have := hh.2.1; omega); obtain ⟨cr, rr, hcr⟩ := ri.ru.row; have rr1 := f1.row rr (by rw [ri.o1]; omega); have cw1 : w1.cell? ⟨bru, ρ t * 4 + 2, none⟩ = some (.int .i64 (s1.wk t : Int)) := (by have := rr1.cell (i := ρ t * 4 + 2) (by have := (HTA.out.row t ht1).2; omega); rw [this, (hcr t ht1 ht2).2.2.1]); have ct1 : w1.cell? ⟨bt, t * 5, none⟩ = some (.int .i64 (ρ t : Int)) := (by have := (cellT tk1.holds (show t < d.size by rw [HTA.out.size]; exact ht1)).1; rw [this, (HTA.out.row t ht1).1]); have zr : (ρ t : Int) < (A.n : Int) := (by have := (HTA.out.row t ht1).2; omega); have hend : Calls Yba.prog 37 #[pn bw 0, .int .i64 ((s1.wk t : Nat) : Int)] w1 fun e w' => e = .returned (.tuple #[]) ∧ WS own1 w' base A.nW A.nK A.sz A.sz (A.pd : Int) I1 { S1 with free := setN S1.free (s1.wk t) (S1.free (s1.wk t) + 1) } ∧ Fr [I1.bf, I1.bw] w1 w' := (by have hx := end37 ws1 (s1.wk t) (ri.mi.fw t ht2) hfree; rw [← ri.bw_]; exact hx); have HQ1 : Hid (Hq w1 base bs v1 d1 ∧ d1.size = m ∧ dq.toList.Perm (enT s1 t :: d1.toList) ∧ v1.ownBlock = vq.ownBlock ∧ Fr (bs :: vq.ownBlock.toList) wr w1 ∧ FrT own1 (fun x => x = 201 ∨ x = 202) wr w1) := ⟨q1, q2, q3, q4, q5, f1⟩; have HW1 : Hid (WS own1 w1 base A.nW A.nK A.sz A.sz (A.pd : Int) I1 S1 ∧ Tks own1 w1 bt A.n A.nK d A.key ∧ PL own1 w1 s1) := ⟨ws1, tk1, pl1⟩; clear q1 q2 q3 q4 q5 f1 ws1 tk1 pl1 rr rr1 hcr) | (go_at_call 37; refine hend.mono ?_; clear hend; rintro e w2 ⟨rfl, e1, e2⟩; have f2 : FrT own1 (fun x => x = 1 ∨ x = 2) w1 w2 := FrT.of e2 (fun b _ hb => by simp at hb; rcases hb with rfl | rfl; exact Or.inr HW1.out.1.of_; exact Or.inl HW1.out.1.ow); have hended := HE.out t (HPL.out.kept HW1.out.2.2 f2 (OwnUp.refl _ _) (fun x hx hh => by have := hh.1; omega)) (HW1.out.2.1.kept f2 (OwnUp.refl _ _) (by omega)) ht1 ht2 ht3; have HE2 : Hid (WS own1 w2 base A.nW A.nK A.sz A.sz (A.pd : Int) I1 { S1 with free := setN S1.free (s1.wk t) (S1.free (s1.wk t) + 1) } ∧ Fr [I1.bf, I1.bw] w1 w2) := ⟨e1, e2⟩; clear e1 e2 f2) | (go_at_call 95; refine hended.mono ?_; clear hended; rintro e w3 ⟨rfl, hed⟩; have HED : Hid (∃ own', PL own' w3 (endOne s1 t) ∧ OwnUp w2 own1 own' ∧ FrT own1 TP w2 w3) := hed; clear hed))
          go_roundg m
          case measure => have := HET.out.2.2; omega
          case rel =>
            obtain ⟨ri, hEn, _, hu1, hf1⟩ := HRI.out
            obtain ⟨own2, p1, p2, p3⟩ := HED.out
            obtain ⟨q1, q2, q3, q4, q5, f1⟩ := HQ1.out
            obtain ⟨k1, k2, k3⟩ := ri.ended HPL.out ht1 HT2.out.1 HT2.out.2 q1 q3 q4 q5 HE2.out.1 HE2.out.2 p1 p2 p3
            exact ⟨own2, endOne s1 t, I1, _, v1, d1, k1, ⟨hEn.step HT2.out.1 (by rw [HET.out.1, HET.out.2.1]), q2⟩, hu1.trans k2 hf1.size, hf1.trans hu1 k3⟩
        · have hne1 : ¬ (s1.en t : Int) = (now : Int) := by omega
          have HET : Hid (¬ s1.en t = now ∧ s1.now = now) := ⟨het, hnow1⟩
          have HT2 : Hid (s1.started t = true ∧ s1.ended t = false ∧ ∀ i, i < A.n → s1.started i = true → s1.ended i = false → s1.en t ≤ s1.en i) := ⟨ht2, ht3, ht5⟩
          generalize (s1.en t : Int) = ent at cg0' hne1
          clear ri hEn hdz hu1 hf1 hvq hroot hz hnow1 ht4 ht5 ht2 ht3 cg0 cg1 hm het hrel
          go_wp2
          go_meet
          obtain ⟨ri, hEn, _, hu1, hf1⟩ := HRI.out
          exact ⟨own1, s1, I1, S1, vq, dq, ri, ends_done hEn ri (Or.inr ⟨t, ht1, HT2.out.1, HT2.out.2.1, by rw [HET.out.2]; exact HET.out.1, HT2.out.2.2⟩) (fun i h1 h2 h3 => by rw [HO.out.nw]; exact HO.out.tt1 i h1 h2 h3), hu1, hf1⟩
  case rest =>
  have HP1 : Hid (PhR PL base bt bru bs A d ρ bw own w wc a (fun s' dq => s' = endAll s)) := hcut
  clear hcut HR1
  obtain ⟨ownE, sE, IE, SE, vqE, dqE, hriE, hsE, huE, hfE⟩ := HP1.out
  have HAR0 : Hid (∀ i, (endAll s).arrived i = true ↔ i < a) := by rw [← hsE]; exact hriE.ar
  have haN : a ≤ A.n := hriE.an
  have HP2 : Hid (PhR PL base bt bru bs A d ρ bw own w wc a (fun s' dq => ∃ Ar, s' = { endAll s with arrived := Ar })) := ⟨ownE, sE, IE, SE, vqE, dqE, hriE, ⟨(endAll s).arrived, hsE⟩, huE, hfE⟩
  clear hriE hsE huE hfE HP1
  go_upto_block 4 with fail
  go_cut [10] (fun v10 wx => ∃ a1 : Nat, v10 = .int .i64 (a1 : Int) ∧ Hid (PhR PL base bt bru bs A d ρ bw own w wx a1 (fun s' dq => s' = arrAll A (endAll s)) ∧ a ≤ a1 ∧ ∀ i, a1 ≤ i → i < A.n → now < A.arr i))
  case first =>
    go_wp2_with fail
    go_loopg [10] (A.n - a) (fun g v10 wr2 => ∃ a1 : Nat, v10 = .int .i64 (a1 : Int) ∧ Hid (g = A.n - a1 ∧ a ≤ a1 ∧ (∀ i, i < a1 → (endAll s).arrived i = true ∨ A.arr i ≤ now) ∧ PhR PL base bt bru bs A d ρ bw own w wr2 a1 (fun s' dq => ∃ Ar, s' = { endAll s with arrived := Ar })))
    case atStart => exact ⟨a, rfl, rfl, Nat.le_refl _, fun i hi => Or.inl ((HAR0.out i).2 hi), HP2.out⟩
    case round =>
      clear HP2
      obtain ⟨a1, rfl, HR⟩ := hrel
      obtain ⟨own1, s1, I1, S1, vq, dq, ri, hAr, hu1, hf1⟩ := HR.out.2.2.2
      have HRI : Hid (RI PL base bt bru bs A d ρ bw own1 wr s1 I1 S1 vq dq a1 ∧ (∃ Ar, s1 = { endAll s with arrived := Ar }) ∧ OwnUp w own own1 ∧ FrT own (fun x => x ≠ 0) w wr) := ⟨ri, hAr, hu1, hf1⟩
      have ha1N : a1 ≤ A.n := ri.an
      have HX1 : Hid (∀ i, (endAll s).arrived i = true → i < a1) := fun i hi => by have := (HAR0.out i).1 hi; have := HR.out.2.1; omega
      have hnowE : (endAll s).now = now := HO.out.nw
      have HX2 : Hid (∀ i, i < a1 → (endAll s).arrived i = true ∨ A.arr i ≤ (endAll s).now) := fun i hi => by rw [hnowE]; exact HR.out.2.2.1 i hi
      by_cases hlt : a1 < A.n
      · have zt : (a1 : Int) < (A.n : Int) := by omega
        have ct1 : wr.cell? ⟨bt, a1 * 5 + 4, none⟩ = some (.int .i64 (A.arr a1 : Int)) := by have := (cellT ri.tk.holds (show a1 < d.size by rw [HTA.out.size]; exact hlt)).2.2.2.2; rw [this, HTA.out.arr a1 hlt]
        by_cases het : A.arr a1 = now
        · rw [het] at ct1
          have hna : s1.arrived a1 = false := by
            cases e : s1.arrived a1 with
            | false => rfl
            | true => have := (ri.ar a1).1 e; omega
          have hns : s1.started a1 = false := by
            cases e : s1.started a1 with
            | false => rfl
            | true => have := ri.mi.sa a1 e; rw [hna] at this; cases this
          have harr := HA.out a1 ri.pl ri.tk ri.hb hlt hna hns (fun i hi => (ri.ar i).1 hi)
          have HET : Hid (A.arr a1 = now) := het
          have m1 := mda
          have m2 := cfa
          clear ri hAr hu1 hf1 het hna hns hnowE
          go_wp2_with (first | (go_at_call 94; refine harr.mono ?_; clear harr; rintro e w3 ⟨rfl, hed⟩; have HED : Hid (∃ own', PL own' w3 (arrOne s1 a1) ∧ OwnUp wr own1 own' ∧ FrT own1 TP wr w3) := hed; clear hed))
          go_roundg (A.n - (a1 + 1))
          case measure => have := HR.out.1; omega
          case rel =>
            obtain ⟨ri, ⟨Ar, hAr⟩, hu1, hf1⟩ := HRI.out
            obtain ⟨own2, p1, p2, p3⟩ := HED.out
            obtain ⟨k1, k2, k3⟩ := ri.arrived hlt p1 p2 p3
            refine ⟨a1 + 1, rfl, rfl, by have := HR.out.2.1; omega, fun i hi => ?_, own2, arrOne s1 a1, I1, S1, vq, dq, k1, ⟨upd Ar a1 true, by rw [hAr]; rfl⟩, hu1.trans k2 hf1.size, hf1.trans hu1 k3⟩
            by_cases e : i = a1
            · subst e; right; have := HET.out; omega
            · exact HR.out.2.2.1 i (by omega)
        · have hne1 : ¬ (A.arr a1 : Int) = (now : Int) := by omega
          have HET : Hid (¬ A.arr a1 = now) := het
          generalize (A.arr a1 : Int) = ent at ct1 hne1
          clear ri hAr hu1 hf1 het
          go_wp2
          go_meet
          obtain ⟨ri, hAr, hu1, hf1⟩ := HRI.out
          have h3 : ∀ i, a1 ≤ i → i < A.n → now < A.arr i := fun i h1 h2 => by
            have x1 := HSORT.out a1 i h1 h2
            have x2 := HO.out.tt2 a1 HR.out.2.1 hlt
            have x3 := HET.out
            omega
          exact ⟨a1, rfl, ⟨own1, s1, I1, S1, vq, dq, ri, arr_done ri hAr HX1.out HX2.out (by rw [show (endAll s).now = now from HO.out.nw]; exact h3), hu1, hf1⟩, HR.out.2.1, h3⟩
      · have ea : a1 = A.n := by omega
        have zt : ¬ (a1 : Int) < (A.n : Int) := by omega
        have HEA : Hid (a1 = A.n) := ea
        clear ri hAr hu1 hf1 ea
        go_wp2
        go_meet
        obtain ⟨ri, hAr, hu1, hf1⟩ := HRI.out
        exact ⟨a1, rfl, ⟨own1, s1, I1, S1, vq, dq, ri, arr_done ri hAr HX1.out HX2.out (fun i h1 h2 => by have := HEA.out; omega), hu1, hf1⟩, HR.out.2.1, fun i h1 h2 => by have := HEA.out; omega⟩
  case rest =>
  obtain ⟨a1, rfl, HP3⟩ := hcut
  clear HP2
  obtain ⟨ownA, sA, IA, SA, vqA, dqA, hriA, hsA, huA, hfA⟩ := HP3.out.1
  have HSA : Hid (sA = arrAll A (endAll s)) := hsA
  have HP4 : Hid (PhR PL base bt bru bs A d ρ bw own w wc a1 (fun s' dq => (∀ z, Starts A s' z → Starts A sA z) ∧ s'.now = now ∧ (∀ i, i < A.n → s'.started i = true → s'.ended i = false → s'.now ≤ s'.en i) ∧ A.n - cnt A.n s'.started = A.n - cnt A.n sA.started)) := ⟨ownA, sA, IA, SA, vqA, dqA, hriA, ⟨fun z hz => hz, by rw [hsA]; exact HO.out.nw, fun i h1 h2 h3 => by
    rw [hsA] at h2 h3 ⊢
    have h3' : s.ended i = false := by
      cases e : s.ended i with
      | false => rfl
      | true => simp [arrAll, endAll, e] at h3
    have := HO.out.tt1 i h1 h2 h3'
    show s.now ≤ s.en i
    rw [HO.out.nw]; exact this, rfl⟩, huA, hfA⟩
  have HX4 : Hid (∀ i, a1 ≤ i → i < A.n → now < A.arr i) := HP3.out.2.2
  clear hriA hsA huA hfA HP3
  go_upto_block 6 with fail
  go_cut [] (fun wx => Hid (PhR PL base bt bru bs A d ρ bw own w wx a1 (fun s' dq => Starts A sA s' ∧ s'.now = now ∧ (∀ i, i < A.n → s'.started i = true → s'.ended i = false → s'.now ≤ s'.en i))))
  case first =>
    go_wp2_with fail
    go_loopg [12] (A.n - cnt A.n sA.started) (fun g u wr2 => Hid (PhR PL base bt bru bs A d ρ bw own w wr2 a1 (fun s' dq => (∀ z, Starts A s' z → Starts A sA z) ∧ s'.now = now ∧ (∀ i, i < A.n → s'.started i = true → s'.ended i = false → s'.now ≤ s'.en i) ∧ A.n - cnt A.n s'.started = g)))
    case atStart => exact HP4.out
    case round =>
      clear HP4
      obtain ⟨own1, s1, I1, S1, vq, dq, ri, ⟨hSt, hnow1, htt, hgk⟩, hu1, hf1⟩ := hrel.out
      have HRI : Hid (RI PL base bt bru bs A d ρ bw own1 wr s1 I1 S1 vq dq a1 ∧ (∀ z, Starts A s1 z → Starts A sA z) ∧ s1.now = now ∧ (∀ i, i < A.n → s1.started i = true → s1.ended i = false → s1.now ≤ s1.en i) ∧ A.n - cnt A.n s1.started = gk ∧ OwnUp w own own1 ∧ FrT own (fun x => x ≠ 0) w wr) := ⟨ri, hSt, hnow1, htt, hgk, hu1, hf1⟩
      obtain ⟨op, hop⟩ : ∃ x, x = opn S1.free A.nW := ⟨_, rfl⟩
      have c1 : wr.cell? ⟨bw, 1, none⟩ = some (.int .i64 (op : Int)) := by have := ri.ws.rw_.cell (i := 1) (by omega); rw [ri.bw_] at this; rw [this, hop]; rfl
      by_cases hz : op = 0
      · rw [hz] at c1
        have HZ : Hid (opn S1.free A.nW = 0) := by show _ = _; rw [← hop]; exact hz
        clear ri hSt hnow1 htt hgk hu1 hf1 hz hop hrel
        go_wp2
        go_meet
        obtain ⟨ri, hSt, hnow1, htt, hgk, hu1, hf1⟩ := HRI.out
        exact ⟨own1, s1, I1, S1, vq, dq, ri, ⟨hSt _ (Starts.stop (noPick_full HPB.out ri HZ.out)), hnow1, htt⟩, hu1, hf1⟩
      · have hd1 : decide ((op : Int) > 0) = true := decide_eq_true (by omega)
        have hd2 : decide ((0 : Int) < (op : Int)) = true := decide_eq_true (by omega)
        have hd3 : decide (0 < op) = true := decide_eq_true (by omega)
        have hex : ∃ v, v < A.nW ∧ 0 < fr A s1 v := by
          obtain ⟨v, h1, h2⟩ := (opn_pos S1.free A.nW).1 (by omega)
          exact ⟨v, h1, by rw [← ri.wr.free v h1]; omega⟩
        have hnext := HN.out ri.mi ri.pl ri.tk ri.ws ri.bw_ ri.wr hex
        rw [hnow1] at hnext
        have HG : Hid (A.n - cnt A.n s1.started = gk) := hgk
        have m1 := mdn
        have m2 := cfn
        clear ri hSt hnow1 htt hgk hu1 hf1 hz hop hrel hex
        go_upto_if 80 with (first | (go_at_call 96; refine hnext.mono ?_; clear hnext; rintro e w1 ⟨own2, hu2, hf2, hcase⟩; have HU2 : Hid (OwnUp wr own1 own2 ∧ FrT own1 TP wr w1) := ⟨hu2, hf2⟩; clear hu2 hf2; rcases hcase with ⟨hnp, rfl, hpl⟩ | ⟨t, v, hpk, rfl, hpl⟩))
        · have HNP : Hid (NoPick A s1 ∧ PL own2 w1 s1) := ⟨hnp, hpl⟩
          clear hnp hpl
          go_wp2
          go_meet
          obtain ⟨ri, hSt, hnow1, htt, hgk, hu1, hf1⟩ := HRI.out
          obtain ⟨k1, k2⟩ := ri.moved HNP.out.2 HU2.out.1 HU2.out.2
          exact ⟨own2, s1, I1, S1, vq, dq, k1, ⟨hSt _ (Starts.stop HNP.out.1), hnow1, htt⟩, hu1.trans HU2.out.1 hf1.size, hf1.trans hu1 k2⟩
        · have HPK : Hid (Pick A s1 t v ∧ PL own2 w1 (start A s1 t v)) := ⟨hpk, hpl⟩
          obtain ⟨htn, hta, hts, hvW, hvf⟩ := pick_facts hpk
          have ri := HRI.out.1
          have hf2 := HU2.out.2
          have hu2 := HU2.out.1
          have nT : ∀ x, (1 ≤ x ∧ x < 40) ∨ x = 50 ∨ 200 ≤ x → ¬ TP x := fun x hx ht => by have := ht.1; have := ht.2; omega
          have lt1 : bru < wr.heap.size := by obtain ⟨cr, h1, _⟩ := ri.ru.row; exact h1.lt
          have HK1 : Hid (WS own2 w1 base A.nW A.nK A.sz A.sz (A.pd : Int) I1 S1 ∧ Tks own2 w1 bt A.n A.nK d A.key ∧ Runs w1 bru A ρ s1 ∧ Hq w1 base bs vq dq ∧ base ≤ w1.heap.size ∧ own2 bru = 200 ∧ own2 bs = 201 ∧ ∀ b, vq.ownBlock = some b → own2 b = 202) := ⟨ri.ws.kept hf2 hu2 (fun x hx hh => nT x (by omega) hx), ri.tk.kept hf2 hu2 (nT 50 (by omega)), ri.ru.frT hf2 (by rw [ri.o1]; exact nT _ (by omega)), ri.hq.frT hf2 (by rw [ri.o2]; exact nT _ (by omega)) (fun b hb => by rw [ri.o3 b hb]; exact nT _ (by omega)), Nat.le_trans ri.hb hf2.size, by rw [hu2 _ lt1]; exact ri.o1, by rw [hu2 _ ri.hq.var.lt]; exact ri.o2, fun b hb => by rw [hu2 _ (ri.hq.lt b hb)]; exact ri.o3 b hb⟩
          have hkb := HPB.out.k t htn
          have hpd := HPB.out.b6
          have htime : now ≤ 200000 := by have := (ri.mi.time HPB.out).1; rw [HRI.out.2.2.1] at this; exact this
          have ck1 : w1.cell? ⟨bt, t * 5 + 2, none⟩ = some (.int .i64 (A.key t : Int)) := by have := (cellT HK1.out.2.1.holds (show t < d.size by rw [HTA.out.size]; exact htn)).2.2.1; rw [this, HTA.out.key t htn]
          have hst0 := start38 HK1.out.1 hvW hkb.2.1 (by rw [ri.wr.free v hvW]; exact hvf) HK1.out.2.2.2.2.1
          rw [ri.wr.mem v hvW] at hst0
          have hρt := (HTA.out.row t htn).2
          have zr : (ρ t : Int) < (A.n : Int) := by omega
          have zt : (t : Int) < (A.n : Int) := by omega
          have hdq : dq.size ≤ 2048 := by have := ri.size; omega
          have HTS : Hid (s1.arrived t = true ∧ s1.started t = false ∧ 0 < fr A s1 v) := ⟨hta, hts, hvf⟩
          have aE := agg79
          have zE := size79
          obtain ⟨dur, hdur⟩ : ∃ x, x = A.dur t := ⟨_, rfl⟩
          cases hc : isCold A s1 t v with
          | true =>
            have hst : Calls Yba.prog 38 #[pn bw 0, .int .i64 (v : Int), .int .i64 (A.key t : Int)] w1 fun e w' => e = .returned (.bool true) ∧ ∃ own' I' S', Started own2 own' w1 w' base A.nW A.nK A.sz (A.pd : Int) I1 I' S1 S' v (A.key t) := by
              rw [show decide (A.key t ∉ s1.mem v) = true from hc, ri.bw_] at hst0; exact hst0
            have HC : Hid (isCold A s1 t v = true) := hc
            have HEN : Hid (((enOf A s1 t v : Nat) : Int) = ((now : Int) + (A.dur t : Int) + (A.pd : Int))) := by
              show _ = _
              unfold enOf
              rw [hc, HRI.out.2.2.1]
              simp
            clear hpk hpl hta hts hvf ri hf2 hu2 nT lt1 hst0 hc
            go_wp2_with (first | (go_at_call 38; refine hst.mono ?_; clear hst; rintro e w2 ⟨rfl, own3, I2, S2, hs2⟩; have HS2 : Hid (Started own2 own3 w1 w2 base A.nW A.nK A.sz (A.pd : Int) I1 I2 S1 S2 v (A.key t)) := hs2; have tk2 := HK1.out.2.1.kept hs2.fr hs2.up (by omega); have cd2 : w2.cell? ⟨bt, t * 5 + 3, none⟩ = some (.int .i64 (A.dur t : Int)) := (by have := (cellT tk2.holds (show t < d.size by rw [HTA.out.size]; exact htn)).2.2.2.1; rw [this, HTA.out.dur t htn]); have cr2 : w2.cell? ⟨bt, t * 5, none⟩ = some (.int .i64 (ρ t : Int)) := (by have := (cellT tk2.holds (show t < d.size by rw [HTA.out.size]; exact htn)).1; rw [this, (HTA.out.row t htn).1]); have cp2 : w2.cell? ⟨bw, 5, none⟩ = some (.int .i64 (A.pd : Int)) := (by have := hs2.ws.rw_.cell (i := 5) (by omega); rw [hs2.bw, HRI.out.1.bw_] at this; exact this); have hru2 := (HK1.out.2.2.1).frT hs2.fr (by rw [HK1.out.2.2.2.2.2.1]; omega); have hq2 := HK1.out.2.2.2.1.frT hs2.fr (by rw [HK1.out.2.2.2.2.2.2.1]; omega) (fun b hb => by rw [HK1.out.2.2.2.2.2.2.2 b hb]; omega); have HQ2 : Hid (Hq w2 base bs vq dq ∧ Runs w2 bru A ρ s1) := ⟨hq2, hru2⟩; obtain ⟨crr, rr2, _⟩ := hru2.row; have c20 := rr2.cell (i := ρ t * 4) (by omega); have c21 := rr2.cell (i := ρ t * 4 + 1) (by omega); have c22 := rr2.cell (i := ρ t * 4 + 2) (by omega); have c23 := rr2.cell (i := ρ t * 4 + 3) (by omega); have g20 := rr2.frozen (ρ t * 4); have g21 := rr2.frozen (ρ t * 4 + 1); have g22 := rr2.frozen (ρ t * 4 + 2); have g23 := rr2.frozen (ρ t * 4 + 3); clear hs2 tk2 hru2 hq2 rr2; have hr3 : Runs ((((w2.setCell ⟨bru, ρ t * 4, none⟩ (.int .i64 (now : Int))).setCell ⟨bru, ρ t * 4 + 1, none⟩ (.int .i64 ((now : Int) + (A.dur t : Int) + (A.pd : Int)))).setCell ⟨bru, ρ t * 4 + 2, none⟩ (.int .i64 (v : Int))).setCell ⟨bru, ρ t * 4 + 3, none⟩ (.bool true)) bru A ρ (start A s1 t v) := (by have hx := HQ2.out.2.store (v := v) htn (fun i hi => (HTA.out.row i hi).2) HINJ.out; rw [HRI.out.2.2.1, HEN.out, HC.out] at hx; exact hx); have hf3 : Fr [bru] w2 ((((w2.setCell ⟨bru, ρ t * 4, none⟩ (.int .i64 (now : Int))).setCell ⟨bru, ρ t * 4 + 1, none⟩ (.int .i64 ((now : Int) + (A.dur t : Int) + (A.pd : Int)))).setCell ⟨bru, ρ t * 4 + 2, none⟩ (.int .i64 (v : Int))).setCell ⟨bru, ρ t * 4 + 3, none⟩ (.bool true)) := (((Fr.setCell _ _ _ (by simp)).trans (Fr.setCell _ _ _ (by simp))).trans (Fr.setCell _ _ _ (by simp))).trans (Fr.setCell _ _ _ (by simp)); have hnb : bs ≠ bru := (fun e => by have x1 := HK1.out.2.2.2.2.2.1; have x2 := HK1.out.2.2.2.2.2.2.1; rw [e, x1] at x2; omega); have hq3 := HqFr HQ2.out.1 hf3 (by simp; exact hnb) (fun b hb hm => by simp at hm; have x1 := HK1.out.2.2.2.2.2.1; have x2 := HK1.out.2.2.2.2.2.2.2 b hb; rw [hm, x1] at x2; omega); have hpush := push39 base bs dq.size vq dq ⟨((now : Int) + (A.dur t : Int) + (A.pd : Int)), (t : Int)⟩ ((((w2.setCell ⟨bru, ρ t * 4, none⟩ (.int .i64 (now : Int))).setCell ⟨bru, ρ t * 4 + 1, none⟩ (.int .i64 ((now : Int) + (A.dur t : Int) + (A.pd : Int)))).setCell ⟨bru, ρ t * 4 + 2, none⟩ (.int .i64 (v : Int))).setCell ⟨bru, ρ t * 4 + 3, none⟩ (.bool true)) hq3 rfl (by omega) (by have x1 := HK1.out.2.2.2.2.1; have x2 := HS2.out.fr.size; have x3 := hf3.size; omega); have HR3 : Hid (Runs ((((w2.setCell ⟨bru, ρ t * 4, none⟩ (.int .i64 (now : Int))).setCell ⟨bru, ρ t * 4 + 1, none⟩ (.int .i64 ((now : Int) + (A.dur t : Int) + (A.pd : Int)))).setCell ⟨bru, ρ t * 4 + 2, none⟩ (.int .i64 (v : Int))).setCell ⟨bru, ρ t * 4 + 3, none⟩ (.bool true)) bru A ρ (start A s1 t v) ∧ Fr [bru] w2 ((((w2.setCell ⟨bru, ρ t * 4, none⟩ (.int .i64 (now : Int))).setCell ⟨bru, ρ t * 4 + 1, none⟩ (.int .i64 ((now : Int) + (A.dur t : Int) + (A.pd : Int)))).setCell ⟨bru, ρ t * 4 + 2, none⟩ (.int .i64 (v : Int))).setCell ⟨bru, ρ t * 4 + 3, none⟩ (.bool true))) := ⟨hr3, hf3⟩; clear hr3 hf3 hnb hq3) | (go_at_call 39; refine hpush.mono ?_; clear hpush; rintro e w4 ⟨rfl, hpp⟩; have HPP : Hid (∃ d' v', Hq w4 base bs v' d' ∧ d'.size = dq.size + 1 ∧ ((⟨((now : Int) + (A.dur t : Int) + (A.pd : Int)), (t : Int)⟩ : En) :: dq.toList).Perm d'.toList ∧ (v'.ownBlock = vq.ownBlock ∨ ∃ g, v'.ownBlock = some g ∧ ((((w2.setCell ⟨bru, ρ t * 4, none⟩ (.int .i64 (now : Int))).setCell ⟨bru, ρ t * 4 + 1, none⟩ (.int .i64 ((now : Int) + (A.dur t : Int) + (A.pd : Int)))).setCell ⟨bru, ρ t * 4 + 2, none⟩ (.int .i64 (v : Int))).setCell ⟨bru, ρ t * 4 + 3, none⟩ (.bool true)).heap.size ≤ g) ∧ Fr (bs :: vq.ownBlock.toList) ((((w2.setCell ⟨bru, ρ t * 4, none⟩ (.int .i64 (now : Int))).setCell ⟨bru, ρ t * 4 + 1, none⟩ (.int .i64 ((now : Int) + (A.dur t : Int) + (A.pd : Int)))).setCell ⟨bru, ρ t * 4 + 2, none⟩ (.int .i64 (v : Int))).setCell ⟨bru, ρ t * 4 + 3, none⟩ (.bool true)) w4) := hpp; clear hpp))
            go_roundg (A.n - cnt A.n (start A s1 t v).started)
            case measure =>
              have x1 := HG.out
              have x2 := cntS_lt htn HTS.out.2.1
              rw [cnt_start htn HTS.out.2.1]
              omega
            case rel =>
              obtain ⟨ri, hSt, hnow1, htt, hgk, hu1, hf1⟩ := HRI.out
              obtain ⟨d4, v4, q1, q2, q3, q4, q5⟩ := HPP.out
              have hx : enT (start A s1 t v) t = ⟨((now : Int) + (A.dur t : Int) + (A.pd : Int)), (t : Int)⟩ := by
                unfold enT
                rw [show (start A s1 t v).en t = enOf A s1 t v from upd_same _ _ _, HEN.out]
              obtain ⟨own4, k1, k2, k3⟩ := ri.started HPL.out HPB.out HPK.out.1 HPK.out.2 HU2.out.1 HU2.out.2 HS2.out HR3.out.1 HR3.out.2 q1 (by rw [hx]; exact q3) q4 q5
              exact ⟨own4, start A s1 t v, I2, S2, v4, d4, k1, ⟨fun z hz => hSt z (Starts.go HPK.out.1 hz), hnow1, tt_start htt, rfl⟩, hu1.trans k2 hf1.size, hf1.trans hu1 k3⟩
          | false =>
            have hst : Calls Yba.prog 38 #[pn bw 0, .int .i64 (v : Int), .int .i64 (A.key t : Int)] w1 fun e w' => e = .returned (.bool false) ∧ ∃ own' I' S', Started own2 own' w1 w' base A.nW A.nK A.sz (A.pd : Int) I1 I' S1 S' v (A.key t) := by
              rw [show decide (A.key t ∉ s1.mem v) = false from hc, ri.bw_] at hst0; exact hst0
            have HC : Hid (isCold A s1 t v = false) := hc
            have HEN : Hid (((enOf A s1 t v : Nat) : Int) = ((now : Int) + (A.dur t : Int))) := by
              show _ = _
              unfold enOf
              rw [hc, HRI.out.2.2.1]
              simp
            clear hpk hpl hta hts hvf ri hf2 hu2 nT lt1 hst0 hc
            go_wp2_with (first | (go_at_call 38; refine hst.mono ?_; clear hst; rintro e w2 ⟨rfl, own3, I2, S2, hs2⟩; have HS2 : Hid (Started own2 own3 w1 w2 base A.nW A.nK A.sz (A.pd : Int) I1 I2 S1 S2 v (A.key t)) := hs2; have tk2 := HK1.out.2.1.kept hs2.fr hs2.up (by omega); have cd2 : w2.cell? ⟨bt, t * 5 + 3, none⟩ = some (.int .i64 (A.dur t : Int)) := (by have := (cellT tk2.holds (show t < d.size by rw [HTA.out.size]; exact htn)).2.2.2.1; rw [this, HTA.out.dur t htn]); have cr2 : w2.cell? ⟨bt, t * 5, none⟩ = some (.int .i64 (ρ t : Int)) := (by have := (cellT tk2.holds (show t < d.size by rw [HTA.out.size]; exact htn)).1; rw [this, (HTA.out.row t htn).1]); have cp2 : w2.cell? ⟨bw, 5, none⟩ = some (.int .i64 (A.pd : Int)) := (by have := hs2.ws.rw_.cell (i := 5) (by omega); rw [hs2.bw, HRI.out.1.bw_] at this; exact this); have hru2 := (HK1.out.2.2.1).frT hs2.fr (by rw [HK1.out.2.2.2.2.2.1]; omega); have hq2 := HK1.out.2.2.2.1.frT hs2.fr (by rw [HK1.out.2.2.2.2.2.2.1]; omega) (fun b hb => by rw [HK1.out.2.2.2.2.2.2.2 b hb]; omega); have HQ2 : Hid (Hq w2 base bs vq dq ∧ Runs w2 bru A ρ s1) := ⟨hq2, hru2⟩; obtain ⟨crr, rr2, _⟩ := hru2.row; have c20 := rr2.cell (i := ρ t * 4) (by omega); have c21 := rr2.cell (i := ρ t * 4 + 1) (by omega); have c22 := rr2.cell (i := ρ t * 4 + 2) (by omega); have c23 := rr2.cell (i := ρ t * 4 + 3) (by omega); have g20 := rr2.frozen (ρ t * 4); have g21 := rr2.frozen (ρ t * 4 + 1); have g22 := rr2.frozen (ρ t * 4 + 2); have g23 := rr2.frozen (ρ t * 4 + 3); clear hs2 tk2 hru2 hq2 rr2; have hr3 : Runs ((((w2.setCell ⟨bru, ρ t * 4, none⟩ (.int .i64 (now : Int))).setCell ⟨bru, ρ t * 4 + 1, none⟩ (.int .i64 ((now : Int) + (A.dur t : Int)))).setCell ⟨bru, ρ t * 4 + 2, none⟩ (.int .i64 (v : Int))).setCell ⟨bru, ρ t * 4 + 3, none⟩ (.bool false)) bru A ρ (start A s1 t v) := (by have hx := HQ2.out.2.store (v := v) htn (fun i hi => (HTA.out.row i hi).2) HINJ.out; rw [HRI.out.2.2.1, HEN.out, HC.out] at hx; exact hx); have hf3 : Fr [bru] w2 ((((w2.setCell ⟨bru, ρ t * 4, none⟩ (.int .i64 (now : Int))).setCell ⟨bru, ρ t * 4 + 1, none⟩ (.int .i64 ((now : Int) + (A.dur t : Int)))).setCell ⟨bru, ρ t * 4 + 2, none⟩ (.int .i64 (v : Int))).setCell ⟨bru, ρ t * 4 + 3, none⟩ (.bool false)) := (((Fr.setCell _ _ _ (by simp)).trans (Fr.setCell _ _ _ (by simp))).trans (Fr.setCell _ _ _ (by simp))).trans (Fr.setCell _ _ _ (by simp)); have hnb : bs ≠ bru := (fun e => by have x1 := HK1.out.2.2.2.2.2.1; have x2 := HK1.out.2.2.2.2.2.2.1; rw [e, x1] at x2; omega); have hq3 := HqFr HQ2.out.1 hf3 (by simp; exact hnb) (fun b hb hm => by simp at hm; have x1 := HK1.out.2.2.2.2.2.1; have x2 := HK1.out.2.2.2.2.2.2.2 b hb; rw [hm, x1] at x2; omega); have hpush := push39 base bs dq.size vq dq ⟨((now : Int) + (A.dur t : Int)), (t : Int)⟩ ((((w2.setCell ⟨bru, ρ t * 4, none⟩ (.int .i64 (now : Int))).setCell ⟨bru, ρ t * 4 + 1, none⟩ (.int .i64 ((now : Int) + (A.dur t : Int)))).setCell ⟨bru, ρ t * 4 + 2, none⟩ (.int .i64 (v : Int))).setCell ⟨bru, ρ t * 4 + 3, none⟩ (.bool false)) hq3 rfl (by omega) (by have x1 := HK1.out.2.2.2.2.1; have x2 := HS2.out.fr.size; have x3 := hf3.size; omega); have HR3 : Hid (Runs ((((w2.setCell ⟨bru, ρ t * 4, none⟩ (.int .i64 (now : Int))).setCell ⟨bru, ρ t * 4 + 1, none⟩ (.int .i64 ((now : Int) + (A.dur t : Int)))).setCell ⟨bru, ρ t * 4 + 2, none⟩ (.int .i64 (v : Int))).setCell ⟨bru, ρ t * 4 + 3, none⟩ (.bool false)) bru A ρ (start A s1 t v) ∧ Fr [bru] w2 ((((w2.setCell ⟨bru, ρ t * 4, none⟩ (.int .i64 (now : Int))).setCell ⟨bru, ρ t * 4 + 1, none⟩ (.int .i64 ((now : Int) + (A.dur t : Int)))).setCell ⟨bru, ρ t * 4 + 2, none⟩ (.int .i64 (v : Int))).setCell ⟨bru, ρ t * 4 + 3, none⟩ (.bool false))) := ⟨hr3, hf3⟩; clear hr3 hf3 hnb hq3) | (go_at_call 39; refine hpush.mono ?_; clear hpush; rintro e w4 ⟨rfl, hpp⟩; have HPP : Hid (∃ d' v', Hq w4 base bs v' d' ∧ d'.size = dq.size + 1 ∧ ((⟨((now : Int) + (A.dur t : Int)), (t : Int)⟩ : En) :: dq.toList).Perm d'.toList ∧ (v'.ownBlock = vq.ownBlock ∨ ∃ g, v'.ownBlock = some g ∧ ((((w2.setCell ⟨bru, ρ t * 4, none⟩ (.int .i64 (now : Int))).setCell ⟨bru, ρ t * 4 + 1, none⟩ (.int .i64 ((now : Int) + (A.dur t : Int)))).setCell ⟨bru, ρ t * 4 + 2, none⟩ (.int .i64 (v : Int))).setCell ⟨bru, ρ t * 4 + 3, none⟩ (.bool false)).heap.size ≤ g) ∧ Fr (bs :: vq.ownBlock.toList) ((((w2.setCell ⟨bru, ρ t * 4, none⟩ (.int .i64 (now : Int))).setCell ⟨bru, ρ t * 4 + 1, none⟩ (.int .i64 ((now : Int) + (A.dur t : Int)))).setCell ⟨bru, ρ t * 4 + 2, none⟩ (.int .i64 (v : Int))).setCell ⟨bru, ρ t * 4 + 3, none⟩ (.bool false)) w4) := hpp; clear hpp))
            go_roundg (A.n - cnt A.n (start A s1 t v).started)
            case measure =>
              have x1 := HG.out
              have x2 := cntS_lt htn HTS.out.2.1
              rw [cnt_start htn HTS.out.2.1]
              omega
            case rel =>
              obtain ⟨ri, hSt, hnow1, htt, hgk, hu1, hf1⟩ := HRI.out
              obtain ⟨d4, v4, q1, q2, q3, q4, q5⟩ := HPP.out
              have hx : enT (start A s1 t v) t = ⟨((now : Int) + (A.dur t : Int)), (t : Int)⟩ := by
                unfold enT
                rw [show (start A s1 t v).en t = enOf A s1 t v from upd_same _ _ _, HEN.out]
              obtain ⟨own4, k1, k2, k3⟩ := ri.started HPL.out HPB.out HPK.out.1 HPK.out.2 HU2.out.1 HU2.out.2 HS2.out HR3.out.1 HR3.out.2 q1 (by rw [hx]; exact q3) q4 q5
              exact ⟨own4, start A s1 t v, I2, S2, v4, d4, k1, ⟨fun z hz => hSt z (Starts.go HPK.out.1 hz), hnow1, tt_start htt, rfl⟩, hu1.trans k2 hf1.size, hf1.trans hu1 k3⟩
  case rest =>
  obtain ⟨own1, s1, I1, S1, vq, dq, ri, ⟨hSt, hnow1, htt⟩, hu1, hf1⟩ := hcut.out
  rw [HSA.out] at hSt
  have HRI : Hid (RI PL base bt bru bs A d ρ bw own1 wc s1 I1 S1 vq dq a1 ∧ Starts A (arrAll A (endAll s)) s1 ∧ s1.now = now ∧ (∀ i, i < A.n → s1.started i = true → s1.ended i = false → s1.now ≤ s1.en i) ∧ OwnUp w own own1 ∧ FrT own (fun x => x ≠ 0) w wc) := ⟨ri, hSt, hnow1, htt, hu1, hf1⟩
  have HT2 : Hid (∀ i, a1 ≤ i → i < A.n → s1.now ≤ A.arr i) := fun i h1 h2 => by rw [hnow1]; have := HX4.out i h1 h2; omega
  obtain ⟨ad, cap, hvq, hroot⟩ := hq_form ri.hq
  have cs : wc.cell? ⟨bs, 0, none⟩ = some (.slice ad dq.size cap) := by rw [← hvq]; exact ri.hq.var.cell (i := 0) (by omega)
  have ha1N : a1 ≤ A.n := ri.an
  have hdqn : dq.size ≤ 2048 := by have := ri.size; omega
  clear hcut HP4
  by_cases hz : dq.size = 0
  · rw [hz] at cs
    have HZ : Hid (dq.size = 0) := hz
    by_cases ha : a1 = A.n
    · have HEA : Hid (a1 = A.n) := ha
      have hea : (a1 : Int) = (A.n : Int) := by omega
      clear ri hSt hnow1 htt hu1 hf1 hvq hroot hz ha
      go_wp2
      go_ret
      obtain ⟨ri, hSt, hnow1, htt, hu1, hf1⟩ := HRI.out
      have hne := no_event ri HEA.out HZ.out
      exact ⟨bru, s1, own1, rfl, HO.out.reach s1 (Run.last hSt hne), ri.mi, final_all HPB.out ri.mi (starts_end hSt) hne, ri.ru, ri.pl, hu1, hf1, by rw [← HBR.out]; exact Nat.le_refl _⟩
    · have hlt : a1 < A.n := by omega
      have hea : ¬ (a1 : Int) = (A.n : Int) := by omega
      have zt : (a1 : Int) < (A.n : Int) := by omega
      have ct1 : wc.cell? ⟨bt, a1 * 5 + 4, none⟩ = some (.int .i64 (A.arr a1 : Int)) := by have := (cellT ri.tk.holds (show a1 < d.size by rw [HTA.out.size]; exact hlt)).2.2.2.2; rw [this, HTA.out.arr a1 hlt]
      have HNX : Hid (IsNext A s1 (A.arr a1)) := next_arr ri HSORT.out hlt hz
      clear ri hSt hnow1 htt hu1 hf1 hvq hroot hz ha
      go_wp2
      obtain ⟨ri, hSt, hnow1, htt, hu1, hf1⟩ := HRI.out
      obtain ⟨k1, k2, k3⟩ := out_next HPB.out HPL.out ri HO.out HMI.out hSt htt HNX.out HT2.out
      go_roundg (meas A s1)
      case measure => exact k3
      case rel => exact ⟨A.arr a1, a1, rfl, rfl, own1, _, I1, S1, vq, dq, k1, k2, hu1, hf1⟩
  · obtain ⟨t, ht1, ht2, ht3, ht4, ht5⟩ := ri.root (by omega)
    obtain ⟨gg, rfl, cg0, cg1⟩ := hroot (by omega)
    rw [ht4] at cg0
    have cg0' : wc.cell? ⟨gg, 0, none⟩ = some (.int .i64 (s1.en t : Int)) := cg0
    obtain ⟨m, hm⟩ : ∃ m, dq.size = m + 1 := ⟨dq.size - 1, by omega⟩
    rw [hm] at cs
    have hm0 : ¬ (m : Int) + 1 = 0 := by omega
    have hm1 : ¬ m + 1 = 0 := by omega
    have hm2 : (0 : Int) < (m : Int) + 1 := by omega
    by_cases ha : a1 = A.n
    · have HEA : Hid (a1 = A.n) := ha
      have HNX : Hid (IsNext A s1 (s1.en t)) := next_end ri ha ht1 ht2 ht3 ht5
      have hea : (a1 : Int) = (A.n : Int) := by omega
      generalize hent : s1.en t = ent at HNX cg0'
      clear ri hSt hnow1 htt hu1 hf1 hvq hroot hz ha ht1 ht2 ht3 ht4 ht5 cg0 cg1 hm hent
      go_wp2
      obtain ⟨ri, hSt, hnow1, htt, hu1, hf1⟩ := HRI.out
      obtain ⟨k1, k2, k3⟩ := out_next HPB.out HPL.out ri HO.out HMI.out hSt htt HNX.out HT2.out
      go_roundg (meas A s1)
      case measure => exact k3
      case rel => exact ⟨ent, a1, rfl, by rw [HEA.out], own1, _, I1, S1, vq, dq, k1, k2, hu1, hf1⟩
    · have hlt : a1 < A.n := by omega
      have hea : ¬ (a1 : Int) = (A.n : Int) := by omega
      have zt : (a1 : Int) < (A.n : Int) := by omega
      have ct1 : wc.cell? ⟨bt, a1 * 5 + 4, none⟩ = some (.int .i64 (A.arr a1 : Int)) := by have := (cellT ri.tk.holds (show a1 < d.size by rw [HTA.out.size]; exact hlt)).2.2.2.2; rw [this, HTA.out.arr a1 hlt]
      have HNX : Hid (IsNext A s1 (min (s1.en t) (A.arr a1))) := next_min ri HSORT.out hlt ht1 ht2 ht3 ht5
      generalize hent : s1.en t = ent at HNX cg0'
      generalize hart : A.arr a1 = art at HNX ct1
      clear ri hSt hnow1 htt hu1 hf1 hvq hroot hz ha ht1 ht2 ht3 ht4 ht5 cg0 cg1 hm hent hart
      go_wp2_with fail
      go_region
      all_goals
        go_wp2_with fail
        obtain ⟨ri, hSt, hnow1, htt, hu1, hf1⟩ := HRI.out
        obtain ⟨k1, k2, k3⟩ := out_next HPB.out HPL.out ri HO.out HMI.out hSt htt HNX.out HT2.out
        have f0 : FrT own1 (fun _ => False) wc wc.drew := frT_drewN own1 _ wc 1
        go_roundg (meas A s1)
        case measure => exact k3
        case rel => exact ⟨min ent art, a1, by congr 1; omega, rfl, own1, _, I1, S1, vq, dq, k1.drew HPL.out, k2, hu1, hf1.trans hu1 (f0.mono (fun x hx => hx.elim))⟩
end Rpp
end Go.Proofs.Ybulkdpsg

/- S5830C: replayFleet. -/
import Derived.Test.YbulkdpsgB3
import Derived.Test.YbulkdpsgX3p
import Derived.Test.YbulkdpsgX3s
import Derived.Test.YbulkdpsgN2
import Derived.Test.YbulkdpsgN4
import Derived.Test.YbulkdpsgF1
namespace Go.Proofs.Ybulkdpsg
open Go Go.RowKit Go.Sort Go.Proofs Go.Lib
set_option linter.unusedVariables false
set_option linter.unusedSimpArgs false
theorem agg67 (w : World) : (isAgg 67).run Yba.prog w = .ok true w := by kernel_rfl
theorem size67 (w : World) : (Go.sizeOf 67).run Yba.prog w = .ok 7 w := by kernel_rfl
theorem cf10 (args : Array Value) (w : World) : (callFunc 10 args).run Yba.prog w = .ok (.enter 10 args) w := by kernel_rfl
/-- What replayFleet leaves. -/
structure FlP (X : Inp) (bn br : Nat) (w w' : World) (bru : Nat) (z : MS) (ρ : Nat → Nat) : Prop where
  ord : Ord X ρ
  run : Run (parA X ρ) MS.init z
  mi : MI (parA X ρ) z
  all : ∀ i, i < X.n → z.ended i = true
  ru : Runs w' bru (parA X ρ) ρ z
  nb : w.heap.size ≤ bru
  os : w'.os = w.os
  tape : w'.tape = w.tape
  output : w'.output = w.output
  size : w.heap.size ≤ w'.heap.size
  block : ∀ k, k < w.heap.size → k ≠ br → k ≠ bn → w'.heap[k]? = w.heap[k]?
  st : X.sticky = true → w'.cell? ⟨bn, 0, none⟩ = some (.int .i64 1) ∧ ∃ vw vi R, w'.rowIs br 60 8 (ruF vw vi R) ∧ R.adds = X.nJ ∧ R.enq = X.n ∧ R.starts = X.n ∧ R.dones = X.n
  pi : X.sticky = false → w'.heap[bn]? = w.heap[bn]? ∧ w'.heap[br]? = w.heap[br]?
theorem plkP (base bt bw bp : Nat) (A : Par) : PLk (PLp base bt bw bp A) := ⟨fun h hf hu hT => h.kept hf hu hT, fun h _ => h.same rfl rfl⟩
theorem plkS (base bt bw br bs : Nat) (A : Par) : PLk (PLs base bt bw br bs A) := ⟨fun h hf hu hT => h.kept hf hu hT, fun h hx => h.later hx⟩
theorem keys_cells {w : World} {base : Nat} {vk : Value} {ks : List Nat} (h : w.ownsRow base 9 1 vk ks.length (ks.map fun k => .string (keyB k))) : ∃ ak ck, vk = .slice ak ks.length ck ∧ ∀ i, i < ks.length → ∃ b off, ak = some ⟨b, off, none⟩ ∧ w.cell? ⟨b, off + i, none⟩ = some (.string (keyB (ks[i]!))) := by
  by_cases hz : 0 < ks.length
  · obtain ⟨g, cap, rfl, _⟩ := h.form (by omega)
    refine ⟨_, cap, rfl, fun i hi => ⟨g, 0, rfl, ?_⟩⟩
    have := (own_cell (xs := ks.map fun k => Value.string (keyB k)) h (j := i) (u := .string (keyB (ks[i]!))) (by rw [List.getElem?_map, List.getElem?_eq_getElem hi, getElem!_pos ks i hi]; rfl)).1
    rw [Nat.zero_add]; exact this
  · have e : ks = [] := by cases ks with
      | nil => rfl
      | cons a b => simp at hz
    subst e
    rcases h.2 with ⟨h1, _⟩ | ⟨g, cap, cur, rfl, _⟩
    · exact ⟨none, 0, h1, fun i hi => by simp at hi⟩
    · exact ⟨_, cap, rfl, fun i hi => by simp at hi⟩
set_option maxRecDepth 100000 in
set_option maxHeartbeats 8000000 in
theorem fleet11 {X : Inp} (hX : InpOk X) (b5 bl bn bx br : Nat) (vj : Value) (aj : Option Addr) (cj plc : Nat) (w : World) (hvj : vj = .slice aj X.nJ cj) (hl : w.rowIs bl 57 2 (fun c => if c = 0 then vj else .slice (some ⟨b5, 0, none⟩) X.n X.n)) (h5 : w.rowIs b5 54 (X.n * 4) (tkF X.job X.key X.dur X.arr))
    (hrule : w.rowIs br 60 8 (ruF (.slice none 0 0) (.slice none 0 0) (ruZ 0 0))) (hnews : w.rowIs bn 3 1 (fun _ => .int .i64 0)) (hbx : w.rowIs bx 58 1 (fun _ => pn br 0)) (hne : bn ≠ bx ∧ bn ≠ br ∧ bl ≠ bn) (hplc : plc < 3) (hst : X.sticky = decide (plc = 0)) :
    Calls Yba.prog 11 #[pn bl 0, .agg #[.int .i64 (plc : Int), .string ⟨#[122, 122]⟩, .func (.func 10) #[] #[pn bn 0, pn bx 0], .int .i64 (X.nW : Int), .int .i64 (X.nS : Int), .int .i64 (X.nC : Int), .int .i64 (X.pd : Int)]] w fun e w' => ∃ bru z ρ, e = .returned (.slice (some ⟨bru, 0, none⟩) X.n X.n) ∧ FlP X bn br w w' bru z ρ := by
  have mixed := mixedYba
  have aE := agg67
  have zE := size67
  have HX : Hid (InpOk X) := hX
  have hn := hX.b1
  have HL : Hid (w.rowIs bl 57 2 (fun c => if c = 0 then vj else .slice (some ⟨b5, 0, none⟩) X.n X.n)) := hl
  have HRUL : Hid (w.rowIs br 60 8 (ruF (.slice none 0 0) (.slice none 0 0) (ruZ 0 0))) := hrule
  have HNEW : Hid (w.rowIs bn 3 1 (fun _ => .int .i64 0)) := hnews
  have HBX : Hid (w.rowIs bx 58 1 (fun _ => pn br 0)) := hbx
  obtain ⟨Wf, hWf⟩ : ∃ Y, w.alloc (.cells #[.int .i64 (plc : Int), .string ⟨#[122, 122]⟩, .func (.func 10) #[] #[pn bn 0, pn bx 0], .int .i64 (X.nW : Int), .int .i64 (X.nS : Int), .int .i64 (X.nC : Int), .int .i64 (X.pd : Int)] 67) = Y := ⟨_, rfl⟩
  have ff : Fr [] w Wf := by rw [← hWf]; exact Fr.alloc _ _ _
  have rf := World.rowIs_alloc w #[.int .i64 (plc : Int), .string ⟨#[122, 122]⟩, .func (.func 10) #[] #[pn bn 0, pn bx 0], .int .i64 (X.nW : Int), .int .i64 (X.nS : Int), .int .i64 (X.nC : Int), .int .i64 (X.pd : Int)] 67 (fun c => (#[.int .i64 (plc : Int), .string ⟨#[122, 122]⟩, .func (.func 10) #[] #[pn bn 0, pn bx 0], .int .i64 (X.nW : Int), .int .i64 (X.nS : Int), .int .i64 (X.nC : Int), .int .i64 (X.pd : Int)] : Array Value)[c]!) (fun c hc => by rw [getElem!_pos _ c hc]; exact Array.getElem?_eq_getElem hc)
  rw [hWf] at rf
  obtain ⟨bf, hbf⟩ : ∃ b, w.heap.size = b := ⟨_, rfl⟩
  rw [hbf] at rf
  have hby := byArrival21 hX b5 bl vj Wf (ff.row hl (by simp)) (ff.row h5 (by simp))
  have HFF : Hid (Fr [] w Wf ∧ Wf.rowIs bf 67 7 (fun c => (#[.int .i64 (plc : Int), .string ⟨#[122, 122]⟩, .func (.func 10) #[] #[pn bn 0, pn bx 0], .int .i64 (X.nW : Int), .int .i64 (X.nS : Int), .int .i64 (X.nC : Int), .int .i64 (X.pd : Int)] : Array Value)[c]!)) := ⟨ff, rf⟩
  clear hX hl h5 hrule hnews hbx ff rf
  go_enter Yba.func11, Yba.ntmps11
  go_upto_region 2 with (first | (go_at_call 21; refine hby.mono ?_; clear hby; rintro e w1 ⟨bt, d, ρ, vk, rfl, hba⟩; have HBA : Hid (BaP X Wf w1 bt d ρ vk) := hba; clear hba))
  obtain ⟨ak, ck, hvk, hkc⟩ := keys_cells HBA.out.kv
  subst hvk
  have rf1 := HBA.out.fr.row HFF.out.2 (by simp)
  have f0 : w1.cell? ⟨bf, 0, none⟩ = some (.int .i64 (plc : Int)) := rf1.cell (i := 0) (by omega)
  have f3 : w1.cell? ⟨bf, 3, none⟩ = some (.int .i64 (X.nW : Int)) := rf1.cell (i := 3) (by omega)
  have f4 : w1.cell? ⟨bf, 4, none⟩ = some (.int .i64 (X.nS : Int)) := rf1.cell (i := 4) (by omega)
  have f5 : w1.cell? ⟨bf, 5, none⟩ = some (.int .i64 (X.nC : Int)) := rf1.cell (i := 5) (by omega)
  have f6 : w1.cell? ⟨bf, 6, none⟩ = some (.int .i64 (X.pd : Int)) := rf1.cell (i := 6) (by omega)
  have hks5 := ks_len HX.out
  obtain ⟨nK, hnK⟩ : ∃ x, x = X.ks.length := ⟨_, rfl⟩
  have HNK : Hid (nK = X.ks.length) := hnK
  rw [← hnK] at hks5
  have hnw := newWorkers22 X.nW X.nS X.nC nK (X.pd : Int) w1 HX.out.b2 HX.out.b3 HX.out.b5 hks5
  have HKC : Hid (∀ i, i < X.ks.length → ∃ b off, ak = some ⟨b, off, none⟩ ∧ w1.cell? ⟨b, off + i, none⟩ = some (.string (keyB (X.ks[i]!)))) := hkc
  have HRF : Hid (w1.rowIs bf 67 7 (fun c => (#[.int .i64 (plc : Int), .string ⟨#[122, 122]⟩, .func (.func 10) #[] #[pn bn 0, pn bx 0], .int .i64 (X.nW : Int), .int .i64 (X.nS : Int), .int .i64 (X.nC : Int), .int .i64 (X.pd : Int)] : Array Value)[c]!)) := rf1
  obtain ⟨own0, hown0⟩ : ∃ o : Nat → Nat, o = fun b => if X.sticky = true ∧ b = br then 41 else if b = bt then 50 else 0 := ⟨_, rfl⟩
  have HO0 : Hid (own0 = fun b => if X.sticky = true ∧ b = br then 41 else if b = bt then 50 else 0) := hown0
  rw [← hnK]
  clear hkc rf1 hown0 hnK
  go_upto_region 3 with (first | (go_at_call 22; refine hnw.mono ?_; clear hnw; rintro e w2 ⟨I, rfl, hIge, hws⟩; obtain ⟨own1, hws1, hu1, hf1⟩ := hws own0 0; have HW2 : Hid (WS own1 w2 0 X.nW nK (min X.nC nK) (min X.nC nK) (X.pd : Int) I ⟨fun _ => X.nS, fun _ => [], fun _ => false, fun _ => []⟩ ∧ OwnUp w1 own0 own1 ∧ FrT own0 (fun _ => False) w1 w2) := ⟨hws1, hu1, hf1⟩; clear hws hws1 hu1 hf1 hIge))
  have hnp := newPinned23 bt X.n ck nK I.bw I.bf X.nW ak (fun k => X.ks[k]!) w2 hks5 HX.out.b2 hn (HW2.out.1.rw_.cell (i := 0) (by omega)) (fun i hi => by
    obtain ⟨b, off, h1, h2⟩ := HKC.out i (by rw [← HNK.out]; exact hi)
    have hlt := World.block_lt_of_cell? w1 _ h2
    exact ⟨b, off, h1, (World.cell?_of_block (HW2.out.2.2.block b hlt (fun hx => hx))).trans h2⟩) (fun i _ => keyB_size _)
  have f02 : w2.cell? ⟨bf, 0, none⟩ = some (.int .i64 (plc : Int)) := (HW2.out.2.2.row HRF.out (fun hx => hx)).cell (i := 0) (by omega)
  clear f0 f3 f4 f5 f6
  go_upto_if 32 with (first | (go_at_call 23; refine hnp.mono ?_; clear hnp; rintro e w3 ⟨J, rfl, hpi⟩; obtain ⟨own2, hpi1, hu2, hf2⟩ := hpi own1 0; have HP3 : Hid (Pi own2 w3 0 bt X.n I.bw nK X.nW J (fun k => (hoF X.nW (fun k => X.ks[k]!) k).toNat) (fun _ => []) ∧ OwnUp w2 own1 own2 ∧ FrT own1 (fun _ => False) w2 w3) := ⟨hpi1, hu2, hf2⟩; have f03 : w3.cell? ⟨bf, 0, none⟩ = some (.int .i64 (plc : Int)) := (hf2.row (HW2.out.2.2.row HRF.out (fun hx => hx)) (fun hx => hx)).cell (i := 0) (by omega); clear hpi hpi1 hu2 hf2))
  have eK := HNK.out
  subst eK
  have B := HBA.out
  have hW2 := HW2.out
  have hP3 := HP3.out
  have z0 := HFF.out.1.size
  have z1 := B.fr.size
  have z2 := hW2.2.2.size
  have z3 := hP3.2.2.size
  have nbt : ∀ k, k < w.heap.size → k ≠ bt := fun k hk e => by have := B.nb; omega
  have HF3 : Hid (Fr [] w w3) := ⟨hP3.2.2.os.trans (hW2.2.2.os.trans (B.fr.os.trans HFF.out.1.os)), hP3.2.2.tape.trans (hW2.2.2.tape.trans (B.fr.tape.trans HFF.out.1.tape)), hP3.2.2.output.trans (hW2.2.2.output.trans (B.fr.output.trans HFF.out.1.output)), by omega, fun k hk _ => by rw [hP3.2.2.block k (by omega) (fun h => h), hW2.2.2.block k (by omega) (fun h => h), B.fr.block k (by omega) (by simp), HFF.out.1.block k hk (by simp)]⟩
  have HOW : Hid (∀ k, k < w.heap.size → own2 k = if X.sticky = true ∧ k = br then 41 else 0) := fun k hk => by
    rw [hP3.2.1 k (by omega), hW2.2.1 k (by omega), HO0.out]
    show (if _ then _ else if k = bt then _ else _) = _
    rw [if_neg (nbt k hk)]
  have tk1 : Tks own0 w1 bt X.n X.ks.length d (parA X ρ).key := ⟨by rw [HO0.out]; show (if X.sticky = true ∧ bt = br then 41 else if bt = bt then 50 else 0) = 50; rw [if_neg (fun e => nbt br HRUL.out.lt e.2.symm), if_pos rfl], B.holds, B.lt, B.ta.size, fun i hi => ⟨B.ta.key i hi, (idx_get (key_mem (B.ord.ltn hi))).1⟩, hn⟩
  have HC3 : Hid (WS own2 w3 0 X.nW X.ks.length (min X.nC X.ks.length) (min X.nC X.ks.length) (X.pd : Int) I ⟨fun _ => X.nS, fun _ => [], fun _ => false, fun _ => []⟩ ∧ Tks own2 w3 bt X.n X.ks.length d (parA X ρ).key) := ⟨hW2.1.kept hP3.2.2 hP3.2.1 (fun x hx => hx.elim), (tk1.kept hW2.2.2 hW2.2.1 (fun hx => hx)).kept hP3.2.2 hP3.2.1 (fun hx => hx)⟩
  have HWR : Hid (WRel (parA X ρ) MS.init ⟨fun _ => X.nS, fun _ => [], fun _ => false, fun _ => []⟩) := ⟨fun v hv => by
    show X.nS = X.nS - cnt X.n (runs MS.init v)
    rw [cnt_none (p := runs MS.init v) (fun i _ => rfl)]; rfl, fun v hv => rfl⟩
  have HINJ : Hid (∀ i j, i < (parA X ρ).n → j < (parA X ρ).n → ρ i = ρ j → i = j) := fun i j hi hj e => (iso HX.out B.ord).ρinj hi hj e
  have HSORT : Hid (∀ i j, i ≤ j → j < (parA X ρ).n → (parA X ρ).arr i ≤ (parA X ρ).arr j) := fun i j hij hj => by
    show X.arr (ρ i) ≤ X.arr (ρ j)
    rcases Nat.lt_or_ge i j with z | z
    · have := B.ord.lt i j z hj; omega
    · rw [show i = j by omega]; exact Nat.le_refl _
  have hpb := pb_A HX.out B.ord
  clear B hW2 hP3 z0 z1 z2 z3 nbt tk1
  by_cases hp0 : plc = 0
  · have hs : X.sticky = true := by rw [hst]; exact decide_eq_true hp0
    have HS : Hid (X.sticky = true) := hs
    subst hp0
    have hrl := HRUL.out.lt
    have hnl := HNEW.out.lt
    have f3 := HF3.out
    have f3s := f3.size
    have obr : own2 br = 41 := by rw [HOW.out br hrl, if_pos ⟨hs, rfl⟩]
    have obn : own2 bn = 0 := by rw [HOW.out bn hnl, if_neg (fun e => hne.2.1 e.2)]
    have ru3 : Ru own2 w3 0 br (.slice none 0 0) (.slice none 0 0) (ruZ 0 0) := ⟨obr, fun b hb => by simp [Value.ownBlock] at hb, fun b hb => by simp [Value.ownBlock] at hb, f3.row HRUL.out (by simp), ⟨by simp [ints, ruZ], Or.inl ⟨rfl, rfl⟩⟩, ⟨by simp [ints, ruZ], Or.inl ⟨rfl, rfl⟩⟩, by simp [ruZ], by simp [ruZ], fun j hj => by simp [ruZ]⟩
    obtain ⟨W4, hW4⟩ : ∃ Y, w3.drew.setCell ⟨bn, 0, none⟩ (.int .i64 1) = Y := ⟨_, rfl⟩
    have rn3 := f3.row HNEW.out (by simp)
    have rx3 := f3.row HBX.out (by simp)
    have rl3 := f3.row HL.out (by simp)
    have hnew : Calls Yba.prog 10 #[pn bn 0, pn bx 0] w3.drew fun e w' => e = .returned (.iface 58 (pn br 0)) ∧ w' = W4 := (new10 bn bx br 0 w3.drew (rn3.cell (i := 0) (by omega)) (rn3.frozen 0) (rx3.cell (i := 0) (by omega)) hne.1 (by omega)).mono fun e w' ⟨h1, h2⟩ => ⟨h1, by rw [h2, ← hW4]; rfl⟩
    have f4 : Fr [bn] w3 W4 := by rw [← hW4]; exact (Fr.drewN [bn] w3 1).trans (Fr.setCell _ _ _ (by simp))
    have g4 : FrT own2 (fun x => x = 0) w3 W4 := FrT.of f4 (fun b _ hb => by simp at hb; subst hb; exact obn)
    have ru4 := ru3.kept g4 (OwnUp.refl _ _) (fun x hx => by omega)
    have rn4 : W4.rowIs bn 3 1 (fun _ => .int .i64 1) := by rw [← hW4]; exact (((Fr.drewN [] w3 1).row rn3 (by simp)).set 0 _).congr (fun i hi => by simp; omega)
    have hns := newSticky24 (bt := bt) (n := X.n) (bw := I.bw) (nJ := X.nJ) (nK := X.ks.length) ru4 (Nat.zero_le _) HX.out.b4 hn (ks_len HX.out)
    have cl3 : w3.cell? ⟨bl, 0, none⟩ = some (.slice aj X.nJ cj) := by have := rl3.cell (i := 0) (by omega); rw [this, ← hvj]; rfl
    have cl4 : W4.cell? ⟨bl, 0, none⟩ = some (.slice aj X.nJ cj) := f4.cell cl3 (by simp; exact hne.2.2)
    have rff := HP3.out.2.2.row (HW2.out.2.2.row HRF.out (fun hx => hx)) (fun hx => hx)
    have cf3 : w3.cell? ⟨bf, 2, none⟩ = some (.func (.func 10) #[] #[pn bn 0, pn bx 0]) := rff.cell (i := 2) (by omega)
    have cf4 : W4.cell? ⟨bf, 2, none⟩ = some (.func (.func 10) #[] #[pn bn 0, pn bx 0]) := f4.cell cf3 (by simp; omega)
    have c10 := cf10
    have HR4 : Hid (FrT own2 (fun x => x = 0) w3 W4 ∧ Fr [bn] w3 W4 ∧ W4.rowIs bn 3 1 (fun _ => .int .i64 1) ∧ own2 bn = 0) := ⟨g4, f4, rn4, obn⟩
    clear ru3 ru4 rn3 rx3 rl3 f3 g4 f4 rn4 rff obr obn f02
    go_upto_if 32 with fail
    go_cut [8] (fun v8 wx => ∃ (own5 : Nat → Nat) (K : SId), v8 = .iface 95 (pn K.bs 0) ∧ Hid (St own5 wx 0 bt X.n I.bw br X.nJ X.ks.length K ⟨fun _ => [], fun _ _ => [], fun _ => false⟩ ∧ (∃ vw' vi', Ru own5 wx 0 br vw' vi' (ruZ X.nJ 0)) ∧ OwnUp W4 own2 own5 ∧ FrT own2 (fun x => x = 41 ∨ x = 42 ∨ x = 43) W4 wx))
    case first =>
      go_wp2_with fail
      go_region_with (first | (go_at_call 10; refine hnew.mono ?_; clear hnew; rintro e w4 ⟨rfl, rfl⟩) | (go_at_call 24; refine hns.mono ?_; clear hns; rintro e w5 ⟨own5, K, rfl, h1, h2, h3, h4⟩; have H5 : Hid (St own5 w5 0 bt X.n I.bw br X.nJ X.ks.length K ⟨fun _ => [], fun _ _ => [], fun _ => false⟩ ∧ (∃ vw' vi', Ru own5 w5 0 br vw' vi' (ruZ X.nJ 0)) ∧ OwnUp _ own2 own5 ∧ FrT own2 (fun x => x = 41 ∨ x = 42 ∨ x = 43) _ w5) := ⟨h1, h2, h3, h4⟩; clear h1 h2 h3 h4))
      all_goals
        go_wp2_with fail
        go_meet
        exact ⟨own5, K, rfl, H5.out⟩
    case rest =>
      obtain ⟨own5, K, rfl, H5⟩ := hcut
      obtain ⟨st5, ⟨vw5, vi5, ru5⟩, u5, g5⟩ := H5.out
      have g4 := HR4.out.1
      have ws5 := (HC3.out.1.kept g4 (OwnUp.refl _ _) (fun x hx => by omega)).kept g5 u5 (fun x hx => by omega)
      have tk5 := (HC3.out.2.kept g4 (OwnUp.refl _ _) (by omega)).kept g5 u5 (by omega)
      have pl5 : PLs 0 bt I.bw br K.bs (parA X ρ) own5 wc MS.init := ⟨K, _, _, vw5, vi5, ⟨st5, ru5, rfl, rfl, fun j hj => (cnt_none (p := waits (parA X ρ) MS.init j) (fun i _ => rfl)).symm, fun j hj => (cnt_none (p := flies (parA X ρ) MS.init j) (fun i _ => rfl)).symm, rfl, (cnt_none (p := MS.init.arrived) (fun i _ => rfl)).symm, (cnt_none (p := MS.init.started) (fun i _ => rfl)).symm, (cnt_none (p := MS.init.ended) (fun i _ => rfl)).symm, Int.le_refl _, fun t ht => rfl, fun j hj k => ((flt_nil (p := wK (parA X ρ) MS.init j k)).2 (fun i _ => rfl)).symm, fun j hj => ((flt_nil (p := waits (parA X ρ) MS.init j)).2 (fun i _ => rfl)).symm, fun j hj => Nat.zero_le _⟩⟩
      have hrep : Calls Yba.prog 25 #[.slice (some ⟨bt, 0, none⟩) X.n X.n, pn I.bw 0, .iface 95 (pn K.bs 0)] wc fun e w' => Rps.RepPost (PLs 0 bt I.bw br K.bs (parA X ρ)) (parA X ρ) ρ own5 wc e w' :=
        Rps.replay25 hpb HBA.out.ta HINJ.out HSORT.out (plkS 0 bt I.bw br K.bs (parA X ρ)) (fun t h ht hb htn ha hs' hlt => arrS hpb HBA.out.ta h ht hb t htn ha hs' hlt) (fun t h ht htn h1 h2 => endS hpb HBA.out.ta h ht t htn h1 h2) (fun {own w s I' S} M h ht hw hbw hr hop => by
          rw [← hbw] at h ⊢
          exact nextS hpb HBA.out.ta HS.out rfl M h ht hw hr hop) ws5 rfl HWR.out tk5 pl5 (Nat.zero_le _)
      clear st5 ru5 ws5 tk5 pl5
      go_wp2_with (first | (go_at_call 25; refine hrep.mono ?_; clear hrep; rintro e w6 ⟨bru, z, own6, rfl, hpost⟩; have HPO : Hid (Run (parA X ρ) MS.init z ∧ MI (parA X ρ) z ∧ (∀ i, i < (parA X ρ).n → z.ended i = true) ∧ Runs w6 bru (parA X ρ) ρ z ∧ PLs 0 bt I.bw br K.bs (parA X ρ) own6 w6 z ∧ OwnUp wc own5 own6 ∧ FrT own5 (fun x => x ≠ 0) wc w6 ∧ wc.heap.size ≤ bru) := hpost; clear hpost))
      go_ret
      obtain ⟨h1, h2, h3, h4, h5, h6, h7, h8⟩ := HPO.out
      have f3 := HF3.out
      have f4 := HR4.out.2.1
      have z4 := f4.size
      have z5 := g5.size
      have o5 : ∀ k, k < w.heap.size → k ≠ br → own5 k = 0 := fun k hk hkr => by rw [u5 k (by omega), HOW.out k hk, if_neg (fun e => hkr e.2)]
      have o2 : ∀ k, k < w.heap.size → k ≠ br → own2 k = 0 := fun k hk hkr => by rw [HOW.out k hk, if_neg (fun e => hkr e.2)]
      have hblk : ∀ k, k < w.heap.size → k ≠ br → k ≠ bn → w6.heap[k]? = w.heap[k]? := fun k hk h1 h2 => by
        rw [h7.block k (by omega) (by rw [o5 k hk h1]; simp), g5.block k (by omega) (by rw [o2 k hk h1]; omega), f4.block k (by omega) (by simp; exact h2), f3.block k hk (by simp)]
      have rn6 := h7.row (g5.row HR4.out.2.2.1 (by rw [HR4.out.2.2.2]; omega)) (by rw [o5 bn hnl hne.2.1]; simp)
      obtain ⟨K6, B6, R6, vr6, vi6, hc⟩ := h5
      have hall : ∀ i, i < X.n → z.ended i = true := h3
      have hst' : ∀ i, i < X.n → z.started i = true := fun i hi => h2.es i (hall i hi)
      have har' : ∀ i, i < X.n → z.arrived i = true := fun i hi => h2.sa i (hst' i hi)
      refine ⟨bru, z, ρ, rfl, ⟨HBA.out.ord, h1, h2, h3, h4, by omega, h7.os.trans (g5.os.trans (f4.os.trans f3.os)), h7.tape.trans (g5.tape.trans (f4.tape.trans f3.tape)), h7.output.trans (g5.output.trans (f4.output.trans f3.output)), by have := h7.size; omega, hblk, fun _ => ⟨rn6.cell (i := 0) (by omega), vr6, vi6, R6, hc.ru.row, hc.adds, ?_, ?_, ?_⟩, fun hh => by rw [HS.out] at hh; cases hh⟩⟩
      · rw [hc.enq]; exact cnt_all har'
      · rw [hc.starts]; exact cnt_all hst'
      · rw [hc.dones]; exact cnt_all hall
  · have hs : X.sticky = false := by rw [hst]; exact decide_eq_false hp0
    have hp1 : ¬ (plc : Int) = 0 := by omega
    have pl3 : PLp 0 bt I.bw J.bp (parA X ρ) own2 w3 MS.init := ⟨J, fun _ => [], rfl, HP3.out.1, fun v hv => ((flt_nil (p := qP (parA X ρ) MS.init v)).2 (fun i _ => rfl)).symm⟩
    have hrep : Calls Yba.prog 25 #[.slice (some ⟨bt, 0, none⟩) X.n X.n, pn I.bw 0, .iface 91 (pn J.bp 0)] w3 fun e w' => Rpp.RepPost (PLp 0 bt I.bw J.bp (parA X ρ)) (parA X ρ) ρ own2 w3 e w' :=
      Rpp.replay25 hpb HBA.out.ta HINJ.out HSORT.out (plkP 0 bt I.bw J.bp (parA X ρ)) (fun t h ht hb htn ha hs' hlt => arrP (ρ := ρ) hpb h ht hb t htn ha hs' hlt) (fun t h _ _ _ _ => endP h t) (fun {own w s I' S} M h ht hw hbw hr _ => by
        rw [← hbw] at h ⊢
        exact nextP hpb hs rfl M h hw hr _) HC3.out.1 rfl HWR.out HC3.out.2 pl3 (Nat.zero_le _)
    have HS : Hid (X.sticky = false) := hs
    clear pl3 hs hp0
    go_wp2_with (first | (go_at_call 25; refine hrep.mono ?_; clear hrep; rintro e w4 ⟨bru, z, own4, rfl, hpost⟩; have HPO : Hid (Run (parA X ρ) MS.init z ∧ MI (parA X ρ) z ∧ (∀ i, i < (parA X ρ).n → z.ended i = true) ∧ Runs w4 bru (parA X ρ) ρ z ∧ PLp 0 bt I.bw J.bp (parA X ρ) own4 w4 z ∧ OwnUp w3 own2 own4 ∧ FrT own2 (fun x => x ≠ 0) w3 w4 ∧ w3.heap.size ≤ bru) := hpost; clear hpost))
    go_ret
    obtain ⟨h1, h2, h3, h4, h5, h6, h7, h8⟩ := HPO.out
    have f3 := HF3.out
    have hblk : ∀ k, k < w.heap.size → w4.heap[k]? = w.heap[k]? := fun k hk => by
      have := f3.size
      rw [h7.block k (by omega) (by rw [HOW.out k hk, HS.out]; simp), f3.block k hk (by simp)]
    have hnl := HNEW.out.lt
    have hrl := HRUL.out.lt
    have f3s := f3.size
    exact ⟨bru, z, ρ, rfl, ⟨HBA.out.ord, h1, h2, h3, h4, by omega, h7.os.trans f3.os, h7.tape.trans f3.tape, h7.output.trans f3.output, Nat.le_trans f3.size h7.size, fun k hk _ _ => hblk k hk, (fun hh => by rw [HS.out] at hh; cases hh), fun _ => ⟨hblk bn hnl, hblk br hrl⟩⟩⟩
end Go.Proofs.Ybulkdpsg

/- S5830C: newPinned. -/
import Derived.Test.YbulkdpsgP4
import Derived.Deep.RegionWith
import Derived.Deep.LoopGhost
import Derived.Deep.DeepCutAuto
namespace Go.Proofs.Ybulkdpsg
open Go Go.RowKit Go.Sort Go.Proofs Go.Lib
set_option linter.unusedVariables false
/-- The keys up to j have their worker. -/
structure NpL (w wr : World) (bt n bw nK nW bp bo bq : Nat) (ho : Nat → Int) (j : Nat) : Prop where
  fr : Fr [] w wr
  row : wr.rowIs bp 122 4 (piF bt n bw bo nK bq nW)
  ro : wr.rowIs bo 3 nK (fun k => .int .i64 (if k < j then ho k else 0))
  rq : wr.rowIs bq 48 nW (fun _ => .slice none 0 0)
def hoF (nW : Nat) (kx : Nat → Nat) (k : Nat) : Int := fnvTo (keyB (kx k)) (keyB (kx k)).size % (nW : Int)
theorem NpL.pi {w wr : World} {bt n bw nK nW bp bo bq : Nat} {kx : Nat → Nat} (h : NpL w wr bt n bw nK nW bp bo bq (hoF nW kx) nK) (n1 : w.heap.size ≤ bp ∧ w.heap.size ≤ bo ∧ w.heap.size ≤ bq) (n2 : bp ≠ bo ∧ bp ≠ bq ∧ bo ≠ bq) (hW : 0 < nW ∧ nW ≤ 4) (hK : nK ≤ 5) (own : Nat → Nat) (base : Nat) :
    ∃ own', Pi own' wr base bt n bw nK nW ⟨bp, bo, bq, fun _ => .slice none 0 0⟩ (fun k => (hoF nW kx k).toNat) (fun _ => []) ∧ OwnUp w own own' ∧ FrT own (fun _ => False) w wr := by
  have hpos : ∀ k, 0 ≤ hoF nW kx k ∧ hoF nW kx k < (nW : Int) := fun k => by unfold hoF; exact ⟨Int.emod_nonneg _ (by omega), Int.emod_lt_of_pos _ (by omega)⟩
  refine ⟨fun b => if b < w.heap.size then own b else if b = bp then 51 else if b = bo then 52 else if b = bq then 53 else 0, ?_, fun b hb => if_pos hb, ⟨h.fr.os, h.fr.tape, h.fr.output, h.fr.size, fun k hk _ => h.fr.block k hk (by simp)⟩⟩
  exact {
    op := by show (if bp < w.heap.size then own bp else if bp = bp then 51 else if bp = bo then 52 else if bp = bq then 53 else 0) = _; rw [if_neg (by omega), if_pos rfl]
    oo := by show (if bo < w.heap.size then own bo else if bo = bp then 51 else if bo = bo then 52 else if bo = bq then 53 else 0) = _; rw [if_neg (by omega), if_neg (by omega), if_pos rfl]
    oq_ := by show (if bq < w.heap.size then own bq else if bq = bp then 51 else if bq = bo then 52 else if bq = bq then 53 else 0) = _; rw [if_neg (by omega), if_neg (by omega), if_neg (by omega), if_pos rfl]
    ov := fun v hv b hb => by simp [Value.ownBlock] at hb
    row := h.row
    ro := h.ro.congr (fun k hk => by rw [if_pos hk, Int.toNat_of_nonneg (hpos k).1])
    rq := h.rq
    oq := fun v hv => Or.inl ⟨rfl, rfl⟩
    ol := fun k hk => by have := hpos k; show (hoF nW kx k).toNat < nW; omega
    ql := fun v hv => by simp
    b1 := hK
    b2 := hW.2 }
theorem fnvTo_nn (s : ByteArray) (k : Nat) : 0 ≤ fnvTo s k := by
  cases k with
  | zero => show (0 : Int) ≤ 2166136261; omega
  | succ k => show 0 ≤ fnvS _ _; unfold fnvS; exact Int.emod_nonneg _ (by omega)
theorem wrap64_mod {h : Int} (h0 : 0 ≤ h) {k : Int} (hk : 0 < k) (hk4 : k ≤ 4) : wrap64 (h.tmod k) = h % k := by
  rw [Int.tmod_eq_emod_of_nonneg h0]
  have h1 := Int.emod_nonneg h (show k ≠ 0 by omega)
  have h2 := Int.emod_lt_of_pos h hk
  unfold wrap64
  omega
theorem wrap_small {x : Int} (h0 : 0 ≤ x) (h1 : x < 100) : IntKind.i64.wrap x = x := by rw [IntKind.wrap_i64]; omega
set_option maxRecDepth 100000 in
set_option maxHeartbeats 8000000 in
theorem newPinned23 (bt n ck nK bw bf nW : Nat) (ak : Option Addr) (kx : Nat → Nat) (w : World) (hnK : nK ≤ 5) (hnW : 0 < nW ∧ nW ≤ 4) (hn : n ≤ 2048) (c0 : w.cell? ⟨bw, 0, none⟩ = some (.slice (some ⟨bf, 0, none⟩) nW nW)) (hk : ∀ i, i < nK → ∃ b off, ak = some ⟨b, off, none⟩ ∧ w.cell? ⟨b, off + i, none⟩ = some (.string (keyB (kx i)))) (hsz : ∀ i, i < nK → (keyB (kx i)).size ≤ 4) :
    Calls Yba.prog 23 #[.slice (some ⟨bt, 0, none⟩) n n, .slice ak nK ck, pn bw 0] w fun e w' => ∃ J : PId, e = .returned (pn J.bp 0) ∧ ∀ own base, ∃ own', Pi own' w' base bt n bw nK nW J (fun k => (hoF nW kx k).toNat) (fun _ => []) ∧ OwnUp w own own' ∧ FrT own (fun _ => False) w w' := by
  have mixed := mixedYba
  have aE := agg122
  have zE := size122
  have m1 := mk48 nK (by omega)
  have m2 := mk73 nW (by omega)
  have hb : bw < w.heap.size := by have := World.block_lt_of_cell? w _ c0; simpa using this
  have HK : Hid (∀ i, i < nK → ∃ b off, ak = some ⟨b, off, none⟩ ∧ w.cell? ⟨b, off + i, none⟩ = some (.string (keyB (kx i)))) := hk
  clear hk
  go_enter Yba.func23, Yba.ntmps23
  go_upto_region 1 with fail
  go_cut [7] (fun v wx => ∃ bp bo bq, v = pn bp 0 ∧ Hid (PMade w wx bt n bw nK nW bp bo bq))
  case first =>
    go_region
    all_goals go_wp2_with fail
    all_goals go_meet
    · exact ⟨_, _, _, rfl, (pmade_a w bt n bw nK nW).drew⟩
    · exact ⟨_, _, _, rfl, (pmade_b w bt n bw nK nW).drew⟩
  case rest =>
  obtain ⟨bp, bo, bq, rfl, HP⟩ := hcut
  clear m1 m2
  go_wp2_with fail
  go_loopg [26] nK (fun g iv wr => ∃ j : Nat, iv = .int .i64 (j : Int) ∧ j ≤ nK ∧ g = nK - j ∧ Hid (NpL w wr bt n bw nK nW bp bo bq (hoF nW kx) j))
  case atStart => exact ⟨0, rfl, Nat.zero_le _, by omega, HP.out.fr, HP.out.row, HP.out.ro.congr (fun i _ => by simp), HP.out.rq⟩
  case round =>
    obtain ⟨j, rfl, hj, hg, HR⟩ := hrel
    have HG : Hid (gk = nK - j) := hg
    clear hg
    by_cases hlt : j < nK
    · obtain ⟨b, off, rfl, hc⟩ := HK.out j hlt
      have hcr := HR.out.fr.cell hc (by simp)
      have hs4 := hsz j hlt
      generalize hkb : keyB (kx j) = s at hcr hs4
      have HKB : Hid (keyB (kx j) = s) := hkb
      clear hkb
      have zj : (j : Int) < (nK : Int) := by omega
      obtain ⟨W1, hW1⟩ : ∃ X, wr.alloc (.cells #[.int .u32 2166136261] 153) = X := ⟨_, rfl⟩
      have hn35 := new35 wr
      rw [hW1] at hn35
      obtain ⟨cap, W2, hconv, hbytes, hf2, hz2⟩ := bytes_conv W1 s
      have hz1 : W1.heap.size = wr.heap.size + 1 := by rw [← hW1]; simp
      have hrow1 := World.rowIs_alloc wr #[.int .u32 2166136261] 153 (fun _ => .int .u32 2166136261) (fun i hi => by rcases (show i = 0 by simp at hi; omega) with rfl; rfl)
      rw [hW1] at hrow1
      have hrow2 := hf2.row hrow1 (by simp)
      have hwr := write119 wr.heap.size cap (some ⟨W1.heap.size, 0, none⟩) s W2 hs4 (hrow2.cell (i := 0) (by simp)) (hrow2.frozen 0) hbytes
      rw [hz1] at hconv hwr
      have mdf := fun x w => (md_fnv x w).1
      have c119 := cf119
      have HF2 : Hid (Fr [] wr W2) := by show Fr _ _ _; rw [← hW1] at hf2; exact (Fr.alloc _ _ _).trans hf2
      have HRow2 : Hid (W2.rowIs wr.heap.size 153 1 (fun _ => .int .u32 2166136261)) := hrow2
      clear hbytes hrow1 hrow2 hc hf2
      go_upto_region 7 with (first | (go_at_call 35; refine hn35.mono ?_; clear hn35; rintro e w' ⟨rfl, rfl⟩) | (go_at_call 119; refine hwr.mono ?_; clear hwr; rintro e w3 ⟨rfl, hw3⟩; have HW3 : Hid _ := hw3; clear hw3))
      have hw3 := HW3.out
      generalize hhv : fnvTo s s.size = hv at hw3
      have HHV : Hid (fnvTo s s.size = hv) := hhv
      clear hhv
      have r3 : w3.rowIs wr.heap.size 153 1 (fun _ => .int .u32 hv) := by rw [hw3]; exact (HRow2.out.set 0 _).congr (fun i hi => by simp; omega)
      have hgeo : ∀ b, b < wr.heap.size → w3.heap[b]? = wr.heap[b]? := fun b hb => by
        rw [hw3, Deep.blk_setCell_other _ _ _ _ (by show b ≠ wr.heap.size; omega)]; exact HF2.out.block b hb (by simp)
      have HG3 : Hid (Fr [] wr w3) := by
        have f := HF2.out
        have g : Fr [wr.heap.size] W2 w3 := by rw [hw3]; exact Fr.setCell _ _ _ (by simp)
        exact ⟨g.os.trans f.os, g.tape.trans f.tape, g.output.trans f.output, Nat.le_trans f.size g.size, fun k hk _ => hgeo k hk⟩
      have rp3 : w3.rowIs bp 122 4 (piF bt n bw bo nK bq nW) := HR.out.row.of_block (hgeo _ HR.out.row.lt)
      have ro3 := HR.out.ro.of_block (hgeo _ HR.out.ro.lt)
      have d2 : w3.cell? ⟨bp, 2, none⟩ = some (.slice (some ⟨bo, 0, none⟩) nK nK) := rp3.cell (i := 2) (by omega)
      have dj := ro3.cell hlt
      have fj := ro3.frozen j
      have dw : w3.cell? ⟨bw, 0, none⟩ = some (.slice (some ⟨bf, 0, none⟩) nW nW) := (World.cell?_of_block (hgeo bw (Nat.lt_of_lt_of_le hb HR.out.fr.size))).trans (HR.out.fr.cell c0 (by simp))
      have hsum := sum118 wr.heap.size hv w3.drew (r3.cell (i := 0) (by omega))
      have mds := fun x w => (md_fnv x w).2
      have c118 := cf118
      have HRO : Hid (w3.rowIs bo 3 nK (fun k => .int .i64 (if k < j then hoF nW kx k else 0))) := ro3
      clear hw3 hgeo rp3 ro3 r3
      have HST : Hid (∀ x : Int, x = hv % (nW : Int) → NpL w (w3.setCell ⟨bo, j, none⟩ (.int .i64 x)).drew bt n bw nK nW bp bo bq (hoF nW kx) (j + 1)) := fun x hx => by
        subst hx
        have f3 := HG3.out
        have hl := HR.out.ro.lt
        have nb := HP.out.n1
        have n2 := HP.out.n2
        have fS : Fr [bo] w3 (w3.setCell ⟨bo, j, none⟩ (.int .i64 (hv % (nW : Int)))).drew := (Fr.setCell _ _ _ (by simp)).trans (Fr.drewN _ _ 1)
        refine ⟨⟨fS.os.trans (f3.os.trans HR.out.fr.os), fS.tape.trans (f3.tape.trans HR.out.fr.tape), fS.output.trans (f3.output.trans HR.out.fr.output), Nat.le_trans HR.out.fr.size (Nat.le_trans f3.size fS.size), fun k hk _ => ?_⟩, fS.row (f3.row HR.out.row (by simp)) (by simp; omega), ?_, fS.row (f3.row HR.out.rq (by simp)) (by simp; omega)⟩
        · have := HR.out.fr.size
          have := f3.size
          rw [fS.block k (by omega) (by simp; omega), f3.block k (by omega) (by simp), HR.out.fr.block k hk (by simp)]
        · refine (Fr.drewN [] _ 1).row ((HRO.out.set j _).congr fun k hk => ?_) (by simp)
          by_cases e : k = j
          · subst e; rw [if_pos rfl, if_pos (by omega)]; unfold hoF; rw [HKB.out, HHV.out]
          · rw [if_neg e]
            by_cases e2 : k < j
            · rw [if_pos e2, if_pos (by omega)]
            · rw [if_neg e2, if_neg (by omega)]
      have hv0 : Hid (0 ≤ hv) := by show 0 ≤ hv; rw [← HHV.out]; exact fnvTo_nn _ _
      have hwu : IntKind.u32.wrap (nW : Int) = (nW : Int) := by rcases (show nW = 1 ∨ nW = 2 ∨ nW = 3 ∨ nW = 4 by omega) with rfl | rfl | rfl | rfl <;> decide
      have hnz2 : ¬ (nW : Int) = 0 := by omega
      have hnz3 : ¬ nW = 0 := by omega
      have hnz4 : ((nW : Int) == 0) = false := by simp; omega
      go_region_with (first | (go_at_call 118; refine hsum.mono ?_; clear hsum; rintro e w4 ⟨rfl, rfl⟩))
      all_goals
          go_wp2_with fail
          go_roundg (nK - (j + 1))
          case measure => have := HG.out; omega
          case rel =>
            refine ⟨j + 1, rfl, by omega, rfl, HST.out _ ?_⟩
            first
            | exact wrap64_mod hv0.out (by omega) (by omega)
            | omega
    · have ej : j = nK := by omega
      subst ej
      go_wp2
      go_ret
      exact ⟨⟨bp, bo, bq, fun _ => .slice none 0 0⟩, rfl, fun own base => HR.out.pi HP.out.n1 HP.out.n2 hnW hnK own base⟩
end Go.Proofs.Ybulkdpsg

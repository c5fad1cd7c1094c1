/- S5830C: (*workers).roomiest. -/
import Derived.Test.YbulkdpsgR1
import Derived.Test.YbulkdpsgL2
namespace Go.Proofs.Ybulkdpsg
open Go Go.RowKit Go.Proofs Go.Lib
set_option linter.unusedVariables false
set_option linter.unusedSimpArgs false

def roomL (free : Nat → Nat) (l : List Nat) : Int := l.foldl (updB free) (-1)
theorem updB_rng {free : Nat → Nat} {best : Int} {v nW : Nat} (hb : best = -1 ∨ (0 ≤ best ∧ best < nW)) (hv : v < nW) : updB free best v = -1 ∨ (0 ≤ updB free best v ∧ updB free best v < nW) := by
  unfold updB; split
  · exact Or.inr ⟨by omega, by omega⟩
  · exact hb
theorem roomL_rng {free : Nat → Nat} {nW : Nat} : ∀ (l : List Nat) (b : Int), (b = -1 ∨ (0 ≤ b ∧ b < nW)) → (∀ v ∈ l, v < nW) → (l.foldl (updB free) b = -1 ∨ (0 ≤ l.foldl (updB free) b ∧ l.foldl (updB free) b < nW))
  | [], b, h, _ => h
  | v :: r, b, h, hl => roomL_rng r _ (updB_rng h (hl v (by simp))) (fun u hu => hl u (List.mem_cons_of_mem _ hu))
theorem roomL_take (free : Nat → Nat) (l : List Nat) (j : Nat) (hj : j < l.length) : roomL free (l.take (j + 1)) = updB free (roomL free (l.take j)) l[j] := by
  unfold roomL
  rw [List.take_succ_eq_append_getElem hj, List.foldl_append]
  rfl
theorem cf104 (args : Array Value) (w : World) : (callFunc 104 args).run Yba.prog w = .ok (.enter 104 args) w := by kernel_rfl
/-- The variables of roomiest. -/
structure Rb (w wr : World) (bx bb bw : Nat) (best : Int) : Prop where
  rx : wr.rowIs bx 89 1 (fun _ => pn bw 0)
  rb : wr.rowIs bb 3 1 (fun _ => .int .i64 best)
  fr : Fr [] w wr
  nx : w.heap.size ≤ bx
  nb : w.heap.size ≤ bb
  ne : bx ≠ bb
theorem Rb.step {w wr wr' : World} {bx bb bw : Nat} {best b' : Int} (h : Rb w wr bx bb bw best) {q : Nat} (hw : wr' = (wr.setCell ⟨bb, 0, none⟩ (.int .i64 b')).drewN q ∨ (wr' = wr.drewN q ∧ b' = best)) : Rb w wr' bx bb bw b' := by
  rcases hw with rfl | ⟨rfl, rfl⟩
  · refine ⟨h.rx.setOther h.ne _, (h.rb.set 0 _).congr (fun i hi => by simp; omega), ?_, h.nx, h.nb, h.ne⟩
    have hn := h.nb
    exact ⟨h.fr.os, h.fr.tape, h.fr.output, by have := h.fr.size; simp [World.drewN, World.setCell]; exact this, fun k hk _ => by
      show (wr.setCell _ _).heap[k]? = _
      rw [Deep.blk_setCell_other _ _ _ _ (by show k ≠ bb; omega)]; exact h.fr.block k hk (by simp)⟩
  · exact ⟨h.rx, h.rb, ⟨h.fr.os, h.fr.tape, h.fr.output, h.fr.size, h.fr.block⟩, h.nx, h.nb, h.ne⟩
theorem Rb.start (w : World) (bw : Nat) : Rb w ((w.alloc (.cells #[pn bw 0] 89)).alloc (.cells #[.int .i64 (-1)] 3)) w.heap.size (w.heap.size + 1) bw (-1) := by
  have h1 := World.rowIs_alloc w #[pn bw 0] 89 (fun _ => pn bw 0) (fun i hi => by rcases (show i = 0 by simp at hi; omega) with rfl; rfl)
  have h2 := World.rowIs_alloc (w.alloc (.cells #[pn bw 0] 89)) #[.int .i64 (-1)] 3 (fun _ => .int .i64 (-1)) (fun i hi => by rcases (show i = 0 by simp at hi; omega) with rfl; rfl)
  have e : (w.alloc (.cells #[pn bw 0] 89)).heap.size = w.heap.size + 1 := by simp
  rw [e] at h2
  exact ⟨h1.alloc _, h2, (Fr.alloc _ _ _).trans (Fr.alloc _ _ _), Nat.le_refl _, by omega, by omega⟩
set_option maxRecDepth 100000 in
set_option maxHeartbeats 2000000 in
theorem room_all {own : Nat → Nat} {w : World} {base nW nK sz lm : Nat} {pen : Int} {I : Ids} {S : WSt} (h : WS own w base nW nK sz lm pen I S) :
    Calls Yba.prog 101 #[pn I.bw 0, .int .i64 (-1)] w fun e w' => e = .returned (.tuple #[.int .i64 (roomL S.free (List.range nW)), .bool (decide (0 ≤ roomL S.free (List.range nW)))]) ∧ Fr [] w w' := by
  have mixed := mixedYba
  have hnW : nW ≤ 4 := h.b2.2
  have HC : Hid (w.cell? ⟨I.bw, 0, none⟩ = some (.slice (some ⟨I.bf, 0, none⟩) nW nW) ∧ ∀ u, u < nW → w.cell? ⟨I.bf, u, none⟩ = some (.int .i64 (S.free u : Int))) := ⟨(ws_row h).1, fun u hu => h.rf.cell hu⟩
  have HS := Rb.start w I.bw
  have HSt : Hid (Rb w ((w.alloc (.cells #[pn I.bw 0] 89)).alloc (.cells #[.int .i64 (-1)] 3)) w.heap.size (w.heap.size + 1) I.bw (-1)) := HS
  obtain ⟨W0, hW0⟩ : ∃ X, (w.alloc (.cells #[pn I.bw 0] 89)).alloc (.cells #[.int .i64 (-1)] 3) = X := ⟨_, rfl⟩
  have c00 : W0.cell? ⟨I.bw, 0, none⟩ = some (.slice (some ⟨I.bf, 0, none⟩) nW nW) := by rw [← hW0]; exact HS.fr.cell HC.out.1 (by simp)
  have cx0 : W0.cell? ⟨w.heap.size, 0, none⟩ = some (pn I.bw 0) := by rw [← hW0]; exact HS.rx.cell (i := 0) (by omega)
  clear HS h
  rw [hW0] at HSt
  obtain ⟨bx, hbx⟩ : ∃ b, w.heap.size = b := ⟨_, rfl⟩
  rw [hbx] at HSt cx0
  go_enter Yba.func101, Yba.ntmps101
  go_wp2_with fail
  go_loopw [19] (fun iv wr => ∃ j : Nat, iv = .int .i64 (j : Int) ∧ j ≤ nW ∧ Hid (Rb w wr bx (bx + 1) I.bw (roomL S.free ((List.range nW).take j)))) (fun iv _ => nW - (intOf iv).toNat)
  case atStart => exact ⟨0, rfl, Nat.zero_le _, HSt⟩
  case round =>
    clear HSt
    obtain ⟨j, rfl, hj, HR⟩ := hrel
    have hrng : roomL S.free ((List.range nW).take j) = -1 ∨ (0 ≤ roomL S.free ((List.range nW).take j) ∧ roomL S.free ((List.range nW).take j) < nW) := roomL_rng _ _ (Or.inl rfl) (fun v hv => List.mem_range.1 (List.mem_of_mem_take hv))
    have HB := roomL_take S.free (List.range nW) j
    obtain ⟨best, hbest⟩ : ∃ b, b = roomL S.free ((List.range nW).take j) := ⟨_, rfl⟩
    rw [← hbest] at hrng HR HB
    have HBE : Hid (best = roomL S.free ((List.range nW).take j)) := hbest
    have HBT : Hid (∀ hj : j < (List.range nW).length, roomL S.free ((List.range nW).take (j + 1)) = updB S.free best (List.range nW)[j]) := HB
    clear hbest HB
    by_cases hlt : j < nW
    · have hbt := better104 (own := own) (base := base) (nK := nK) (sz := sz) (lm := lm) (pen := pen) (S := S) bx (bx + 1) j best hlt hrng hnW (HR.out.fr.cell HC.out.1 (by simp)) (fun u hu => HR.out.fr.cell (HC.out.2 u hu) (by simp)) (HR.out.rx.cell (i := 0) (by omega)) (HR.out.rb.cell (i := 0) (by omega)) (HR.out.rb.frozen 0)
      have c104 := cf104
      clear hrng
      go_wp2_with (first | (go_at_call 104; refine hbt.mono ?_; clear hbt; rintro e w1 ⟨rfl, q, hw1⟩; have HR1 : Hid (Rb w w1 bx (bx + 1) I.bw (updB S.free best j)) := HR.out.step hw1; clear hw1))
      go_roundw
      case rel =>
        refine ⟨j + 1, by go_num, by omega, ?_⟩
        have := HBT.out (by simp; exact hlt)
        rw [this, List.getElem_range]
        exact HR1
      case measure => simp [intOf]; omega
    · obtain rfl : j = nW := by omega
      have cb : wr.cell? ⟨bx + 1, 0, none⟩ = some (.int .i64 best) := HR.out.rb.cell (i := 0) (by omega)
      have HE : Hid (roomL S.free (List.range j) = best) := by show _ = _; rw [HBE.out, List.take_of_length_le (by simp)]
      by_cases hp : 0 ≤ best
      · have hd : decide (best ≥ 0) = true := decide_eq_true hp
        have hd' : decide (0 ≤ best) = true := decide_eq_true hp
        go_wp2_with fail
        go_quiet (fail)
        go_wp2
        go_ret2
        exact ⟨by rw [HE.out, hd']; rfl, HR.out.fr.trans (Fr.drewN _ _ _)⟩
      · have hd : decide (best ≥ 0) = false := decide_eq_false hp
        have hd' : decide (0 ≤ best) = false := decide_eq_false hp
        go_wp2_with fail
        go_quiet (fail)
        go_wp2
        go_ret2
        exact ⟨by rw [HE.out, hd']; rfl, HR.out.fr.trans (Fr.drewN _ _ _)⟩
theorem hold_form {own : Nat → Nat} {w : World} {base nW nK sz lm : Nat} {pen : Int} {I : Ids} {S : WSt} (h : WS own w base nW nK sz lm pen I S) {k : Nat} (hk : k < nK) : ∃ ad cap, I.hv k = .slice ad (S.hold k).length cap ∧ ∀ j (hj : j < (S.hold k).length), ∃ g, ad = some ⟨g, 0, none⟩ ∧ w.cell? ⟨g, j, none⟩ = some (.int .i64 ((S.hold k)[j] : Int)) := by
  have ho := h.ho k hk
  rcases ho.2 with ⟨h1, h2⟩ | ⟨g, cap, cur, h1, _⟩
  · exact ⟨none, 0, by rw [h1, h2], fun j hj => by omega⟩
  · refine ⟨some ⟨g, 0, none⟩, cap, h1, fun j hj => ⟨g, rfl, ?_⟩⟩
    have k' := ho.cells (g := g) (by rw [h1]; rfl) j (.int .i64 ((S.hold k)[j] : Int)) (by rw [List.getElem?_map, List.getElem?_eq_getElem hj]; rfl)
    have hadd : (⟨g, 0, none⟩ : Addr).add j = ⟨g, j, none⟩ := by unfold Addr.add; split <;> simp_all
    rw [hadd] at k'; exact k'
set_option maxRecDepth 100000 in
set_option maxHeartbeats 2000000 in
theorem room_key {own : Nat → Nat} {w : World} {base nW nK sz lm : Nat} {pen : Int} {I : Ids} {S : WSt} (h : WS own w base nW nK sz lm pen I S) {k : Nat} (hk : k < nK) :
    Calls Yba.prog 101 #[pn I.bw 0, .int .i64 (k : Int)] w fun e w' => e = .returned (.tuple #[.int .i64 (roomL S.free (S.hold k)), .bool (decide (0 ≤ roomL S.free (S.hold k)))]) ∧ Fr [] w w' := by
  have mixed := mixedYba
  have hnW : nW ≤ 4 := h.b2.2
  have HC : Hid (w.cell? ⟨I.bw, 0, none⟩ = some (.slice (some ⟨I.bf, 0, none⟩) nW nW) ∧ ∀ u, u < nW → w.cell? ⟨I.bf, u, none⟩ = some (.int .i64 (S.free u : Int))) := ⟨(ws_row h).1, fun u hu => h.rf.cell hu⟩
  have HS := Rb.start w I.bw
  have HSt : Hid (Rb w ((w.alloc (.cells #[pn I.bw 0] 89)).alloc (.cells #[.int .i64 (-1)] 3)) w.heap.size (w.heap.size + 1) I.bw (-1)) := HS
  obtain ⟨W0, hW0⟩ : ∃ X, (w.alloc (.cells #[pn I.bw 0] 89)).alloc (.cells #[.int .i64 (-1)] 3) = X := ⟨_, rfl⟩
  have c00 : W0.cell? ⟨I.bw, 0, none⟩ = some (.slice (some ⟨I.bf, 0, none⟩) nW nW) := by rw [← hW0]; exact HS.fr.cell HC.out.1 (by simp)
  have cx0 : W0.cell? ⟨w.heap.size, 0, none⟩ = some (pn I.bw 0) := by rw [← hW0]; exact HS.rx.cell (i := 0) (by omega)
  have c40 : W0.cell? ⟨I.bw, 4, none⟩ = some (.slice (some ⟨I.bh, 0, none⟩) nK nK) := by rw [← hW0]; exact HS.fr.cell (ws_row h).2.2.2.2.1 (by simp)
  have hkz : ¬ (k : Int) < 0 := by omega
  have zk : (k : Int) < (nK : Int) := by omega
  have ck0 : W0.cell? ⟨I.bh, k, none⟩ = some (I.hv k) := by rw [← hW0]; exact HS.fr.cell (h.rh.cell hk) (by simp)
  have hnl : (S.hold k).length ≤ 4 := by
    have := php nW (S.hold k) (h.hs k hk).1 (fun u hu => (((h.hs k hk).2 u).1 hu).1)
    omega
  obtain ⟨ad, cap, hhv, hcl⟩ := hold_form h hk
  rw [hhv] at ck0
  have HHO : Hid (∀ j (hj : j < (S.hold k).length), ∃ g, ad = some ⟨g, 0, none⟩ ∧ w.cell? ⟨g, j, none⟩ = some (.int .i64 ((S.hold k)[j] : Int))) := hcl
  have HLT : Hid (∀ v ∈ S.hold k, v < nW) := fun v hv => (((h.hs k hk).2 v).1 hv).1
  obtain ⟨n, hn⟩ : ∃ n, n = (S.hold k).length := ⟨_, rfl⟩
  rw [← hn] at ck0 hnl
  have HN : Hid (n = (S.hold k).length) := hn
  clear hn hcl hhv
  clear HS h
  rw [hW0] at HSt
  obtain ⟨bx, hbx⟩ : ∃ b, w.heap.size = b := ⟨_, rfl⟩
  rw [hbx] at HSt cx0
  go_enter Yba.func101, Yba.ntmps101
  go_wp2_with fail
  go_loopw [34] (fun iv wr => ∃ j : Nat, iv = .int .i64 (j : Int) ∧ j ≤ n ∧ Hid (Rb w wr bx (bx + 1) I.bw (roomL S.free ((S.hold k).take j)))) (fun iv _ => n - (intOf iv).toNat)
  case atStart => exact ⟨0, rfl, Nat.zero_le _, HSt⟩
  case round =>
    clear HSt
    obtain ⟨j, rfl, hj, HR⟩ := hrel
    have hrng : roomL S.free ((S.hold k).take j) = -1 ∨ (0 ≤ roomL S.free ((S.hold k).take j) ∧ roomL S.free ((S.hold k).take j) < nW) := roomL_rng _ _ (Or.inl rfl) (fun v hv => HLT.out v (List.mem_of_mem_take hv))
    have HB := roomL_take S.free (S.hold k) j
    obtain ⟨best, hbest⟩ : ∃ b, b = roomL S.free ((S.hold k).take j) := ⟨_, rfl⟩
    rw [← hbest] at hrng HR HB
    have HBE : Hid (best = roomL S.free ((S.hold k).take j)) := hbest
    have HBT : Hid (∀ hj : j < (S.hold k).length, roomL S.free ((S.hold k).take (j + 1)) = updB S.free best (S.hold k)[j]) := HB
    clear hbest HB
    by_cases hlt : j < n
    · have hlt' : j < (S.hold k).length := by rw [← HN.out]; exact hlt
      obtain ⟨g, rfl, hcj⟩ := HHO.out j hlt'
      have hcj' : wr.cell? ⟨g, j, none⟩ = some (.int .i64 ((S.hold k)[j] : Int)) := HR.out.fr.cell hcj (by simp)
      have huW : (S.hold k)[j] < nW := HLT.out _ (List.getElem_mem hlt')
      have HU := HBT.out hlt'
      generalize (S.hold k)[j] = u at hcj' huW HU
      have HUH : Hid (roomL S.free ((S.hold k).take (j + 1)) = updB S.free best u) := HU
      clear hcj HU
      have hbt := better104 (own := own) (base := base) (nK := nK) (sz := sz) (lm := lm) (pen := pen) (S := S) bx (bx + 1) u best huW hrng hnW (HR.out.fr.cell HC.out.1 (by simp)) (fun u hu => HR.out.fr.cell (HC.out.2 u hu) (by simp)) (HR.out.rx.cell (i := 0) (by omega)) (HR.out.rb.cell (i := 0) (by omega)) (HR.out.rb.frozen 0)
      have c104 := cf104
      clear hrng
      go_wp2_with (first | (go_at_call 104; refine hbt.mono ?_; clear hbt; rintro e w1 ⟨rfl, q, hw1⟩; have HR1 : Hid (Rb w w1 bx (bx + 1) I.bw (updB S.free best u)) := HR.out.step hw1; clear hw1))
      go_roundw
      case rel =>
        refine ⟨j + 1, by go_num, by omega, ?_⟩
        rw [HUH.out]
        exact HR1
      case measure => simp [intOf]; omega
    · obtain rfl : j = n := by omega
      have cb : wr.cell? ⟨bx + 1, 0, none⟩ = some (.int .i64 best) := HR.out.rb.cell (i := 0) (by omega)
      have HE : Hid (roomL S.free (S.hold k) = best) := by show _ = _; rw [HBE.out, List.take_of_length_le (by rw [← HN.out]; exact Nat.le_refl _)]
      by_cases hp : 0 ≤ best
      · have hd : decide (best ≥ 0) = true := decide_eq_true hp
        have hd' : decide (0 ≤ best) = true := decide_eq_true hp
        go_wp2_with fail
        go_quiet (fail)
        go_wp2
        go_ret2
        exact ⟨by rw [HE.out, hd']; rfl, HR.out.fr.trans (Fr.drewN _ _ _)⟩
      · have hd : decide (best ≥ 0) = false := decide_eq_false hp
        have hd' : decide (0 ≤ best) = false := decide_eq_false hp
        go_wp2_with fail
        go_quiet (fail)
        go_wp2
        go_ret2
        exact ⟨by rw [HE.out, hd']; rfl, HR.out.fr.trans (Fr.drewN _ _ _)⟩
end Go.Proofs.Ybulkdpsg

/- S5830C: (*workers).heldOpen. -/
import Derived.Test.YbulkdpsgR2
namespace Go.Proofs.Ybulkdpsg
open Go Go.RowKit Go.Proofs Go.Lib
set_option linter.unusedVariables false
set_option linter.unusedSimpArgs false

theorem cf106 (args : Array Value) (w : World) : (callFunc 106 args).run Yba.prog w = .ok (.enter 106 args) w := by kernel_rfl
def opB (free : Nat → Nat) (v : Nat) : Bool := decide (free v ≠ 0)
theorem open106 (bw bf nW bx v : Nat) (free : Nat → Nat) (w : World) (hv : v < nW) (hnW : nW ≤ 4) (c0 : w.cell? ⟨bw, 0, none⟩ = some (.slice (some ⟨bf, 0, none⟩) nW nW)) (cv : w.cell? ⟨bf, v, none⟩ = some (.int .i64 (free v : Int))) (cx : w.cell? ⟨bx, 0, none⟩ = some (pn bw 0)) :
    Calls Yba.prog 106 #[.int .i64 (v : Int), pn bx 0] w fun e w' => e = .returned (.bool (opB free v)) ∧ w = w' := by
  have zv : (v : Int) < (nW : Int) := by omega
  have he : opB free v = decide ((free v : Int) > 0) := by unfold opB; exact decide_eq_decide.2 (by omega)
  rw [he]
  generalize (free v : Int) = x at cv
  clear he
  go_enter Yba.func106, Yba.ntmps106
  go_wp2
  go_ret
  exact ⟨rfl, rfl⟩
/-- IndexFunc with that closure. -/
theorem index107 (bw bf nW bx cap : Nat) (ad : Option Addr) (l : List Nat) (free : Nat → Nat) (w : World) (hl : ∀ v ∈ l, v < nW) (hnW : nW ≤ 4) (hll : l.length ≤ 100) (c0 : w.cell? ⟨bw, 0, none⟩ = some (.slice (some ⟨bf, 0, none⟩) nW nW)) (cv : ∀ v, v < nW → w.cell? ⟨bf, v, none⟩ = some (.int .i64 (free v : Int))) (cx : w.cell? ⟨bx, 0, none⟩ = some (pn bw 0)) (cl : ∀ j (hj : j < l.length), ∃ g, ad = some ⟨g, 0, none⟩ ∧ w.cell? ⟨g, j, none⟩ = some (.int .i64 (l[j] : Int))) :
    Calls Yba.prog 107 #[.slice ad l.length cap, .func (.func 106) #[] #[pn bx 0]] w fun e w' => (∃ r : Int, e = .returned (.int .i64 r) ∧ (0 ≤ r ↔ l.any (opB free) = true)) ∧ w = w' := by
  have HC : Hid (∀ v, v < nW → Calls Yba.prog 106 #[.int .i64 (v : Int), pn bx 0] w fun e w' => e = .returned (.bool (opB free v)) ∧ w = w') := fun v hv => open106 bw bf nW bx v free w hv hnW c0 (cv v hv) cx
  have HL : Hid (∀ v ∈ l, v < nW) := hl
  have HCL : Hid (∀ j (hj : j < l.length), ∃ g, ad = some ⟨g, 0, none⟩ ∧ w.cell? ⟨g, j, none⟩ = some (.int .i64 (l[j] : Int))) := cl
  have c106 := cf106
  clear c0 cv cx cl hl
  go_enter Yba.func107, Yba.ntmps107
  go_wp2
  go_loopw [8] (fun iv wr => ∃ j : Nat, iv = .int .i64 (j : Int) ∧ j ≤ l.length ∧ w = wr ∧ Hid (∀ v ∈ l.take j, opB free v = false)) (fun iv _ => l.length - (intOf iv).toNat)
  case atStart => exact ⟨0, rfl, Nat.zero_le _, rfl, fun v hv => by simp at hv⟩
  case round =>
    obtain ⟨j, rfl, hj, rfl, HN⟩ := hrel
    by_cases hlt : j < l.length
    · obtain ⟨g, rfl, hc⟩ := HCL.out j hlt
      have huW : l[j] < nW := HL.out _ (List.getElem_mem hlt)
      have HT : Hid (l.take (j + 1) = l.take j ++ [l[j]]) := List.take_succ_eq_append_getElem hlt
      have HM : Hid (l[j] ∈ l) := List.getElem_mem hlt
      generalize l[j] = u at hc huW HT HM
      have hcall := HC.out u huW
      by_cases hu : opB free u = true
      · rw [hu] at hcall
        have HU : Hid (opB free u = true) := hu
        clear hu
        go_wp2_with (first | (go_at_call 106; refine hcall.mono ?_; clear hcall; rintro e w' ⟨rfl, rfl⟩))
        go_ret
        exact ⟨⟨_, rfl, ⟨fun _ => List.any_eq_true.2 ⟨u, HM.out, HU.out⟩, fun _ => by omega⟩⟩, rfl⟩
      · have hu' : opB free u = false := by simpa using hu
        rw [hu'] at hcall
        have HU : Hid (opB free u = false) := hu'
        clear hu hu'
        go_wp2_with (first | (go_at_call 106; refine hcall.mono ?_; clear hcall; rintro e w' ⟨rfl, rfl⟩))
        go_roundw
        case rel =>
          refine ⟨j + 1, by go_num, by omega, by first | rfl | trivial, fun v hv => ?_⟩
          rw [HT.out, List.mem_append] at hv
          rcases hv with h | h
          · exact HN.out v h
          · simp at h; subst h; exact HU.out
        case measure => simp [intOf]; omega
    · obtain rfl : j = l.length := by omega
      go_wp2
      go_ret
      refine ⟨⟨_, rfl, ⟨fun h => by omega, fun h => ?_⟩⟩, rfl⟩
      obtain ⟨v, hv, hv2⟩ := List.any_eq_true.1 h
      have := HN.out v (by rw [List.take_of_length_le (Nat.le_refl _)]; exact hv)
      rw [this] at hv2; cases hv2
theorem contains105 (bw bf nW bx cap : Nat) (ad : Option Addr) (l : List Nat) (free : Nat → Nat) (w : World) (h : Calls Yba.prog 107 #[.slice ad l.length cap, .func (.func 106) #[] #[pn bx 0]] w fun e w' => (∃ r : Int, e = .returned (.int .i64 r) ∧ (0 ≤ r ↔ l.any (opB free) = true)) ∧ w = w') :
    Calls Yba.prog 105 #[.slice ad l.length cap, .func (.func 106) #[] #[pn bx 0]] w fun e w' => e = .returned (.bool (l.any (opB free))) ∧ w = w' := by
  generalize hb : l.any (opB free) = b at h ⊢
  clear hb
  go_enter Yba.func105, Yba.ntmps105
  go_wp2_with (first | (go_at_call 107; refine h.mono ?_; clear h; rintro e w' ⟨⟨r, rfl, hr⟩, rfl⟩; have HR : Hid (0 ≤ r ↔ b = true) := hr; clear hr))
  go_ret
  refine ⟨?_, rfl⟩
  have hr := HR.out
  congr 2
  cases b
  · simp at hr ⊢; omega
  · simp at hr ⊢; exact hr
set_option maxHeartbeats 1000000 in
theorem held103 {own : Nat → Nat} {w : World} {base nW nK sz lm : Nat} {pen : Int} {I : Ids} {S : WSt} (h : WS own w base nW nK sz lm pen I S) {k : Nat} (hk : k < nK) :
    Calls Yba.prog 103 #[pn I.bw 0, .int .i64 (k : Int)] w fun e w' => e = .returned (.bool ((S.hold k).any (opB S.free))) ∧ Fr [] w w' := by
  have hnW := h.b2.2
  have hnK := h.b3
  obtain ⟨ad, cap, hhv, hcl⟩ := hold_form h hk
  obtain ⟨W0, hW0⟩ : ∃ X, w.alloc (.cells #[pn I.bw 0] 89) = X := ⟨_, rfl⟩
  have HF : Hid (Fr [] w W0) := by show Fr _ _ _; rw [← hW0]; exact Fr.alloc _ _ _
  have hrx := World.rowIs_alloc w #[pn I.bw 0] 89 (fun _ => pn I.bw 0) (fun i hi => by rcases (show i = 0 by simp at hi; omega) with rfl; rfl)
  rw [hW0] at hrx
  have cx0 : W0.cell? ⟨w.heap.size, 0, none⟩ = some (pn I.bw 0) := hrx.cell (i := 0) (by simp)
  have c40 : W0.cell? ⟨I.bw, 4, none⟩ = some (.slice (some ⟨I.bh, 0, none⟩) nK nK) := HF.out.cell (ws_row h).2.2.2.2.1 (by simp)
  have ck0 : W0.cell? ⟨I.bh, k, none⟩ = some (.slice ad (S.hold k).length cap) := by rw [← hhv]; exact HF.out.cell (h.rh.cell hk) (by simp)
  have zk : (k : Int) < (nK : Int) := by omega
  have hnl : (S.hold k).length ≤ 4 := by
    have := php nW (S.hold k) (h.hs k hk).1 (fun u hu => (((h.hs k hk).2 u).1 hu).1)
    omega
  have hcon := contains105 I.bw I.bf nW w.heap.size cap ad (S.hold k) S.free W0 (index107 I.bw I.bf nW w.heap.size cap ad (S.hold k) S.free W0 (fun v hv => (((h.hs k hk).2 v).1 hv).1) hnW (by omega) (HF.out.cell (ws_row h).1 (by simp)) (fun u hu => HF.out.cell (h.rf.cell hu) (by simp)) cx0 (fun j hj => by obtain ⟨g, h1, h2⟩ := hcl j hj; exact ⟨g, h1, HF.out.cell h2 (by simp)⟩))
  clear h hcl hhv hrx
  generalize (S.hold k).any (opB S.free) = b at hcon ⊢
  obtain ⟨bx, hbx⟩ : ∃ b, w.heap.size = b := ⟨_, rfl⟩
  rw [hbx] at cx0 hcon
  go_enter Yba.func103, Yba.ntmps103
  go_wp2_with (first | (go_at_call 105; refine hcon.mono ?_; clear hcon; rintro e w' ⟨rfl, rfl⟩))
  go_ret
  exact ⟨rfl, HF.out⟩
end Go.Proofs.Ybulkdpsg

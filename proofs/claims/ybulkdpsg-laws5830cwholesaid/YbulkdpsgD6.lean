/- S5830C: container/heap: up, down. -/
import Derived.Test.YbulkdpsgD5
namespace Go.Proofs.Ybulkdpsg
open Go Go.RowKit Go.Sort Go.Proofs Go.Lib
set_option linter.unusedVariables false
set_option linter.unusedSimpArgs false

theorem TwE.drewN {w w' : World} {blk : Nat} {d : Array En} (h : TwE w w' blk d) (q : Nat) : TwE w (w'.drewN q) blk d := ⟨h.holds, ⟨h.grown.os, h.grown.tape, h.grown.output, h.grown.size, h.grown.block⟩, h.shape⟩

theorem md0 (a : Addr) (w : World) : (method 310 144 (.pointer (some a)) "Len").run Yba.prog w = (do let v ← loadVar 140 a; pure (109, v)).run Yba.prog w ∧ (method 310 144 (.pointer (some a)) "Less").run Yba.prog w = (do let v ← loadVar 140 a; pure (110, v)).run Yba.prog w ∧ (method 310 144 (.pointer (some a)) "Swap").run Yba.prog w = (do let v ← loadVar 140 a; pure (111, v)).run Yba.prog w := ⟨by kernel_rfl, by kernel_rfl, by kernel_rfl⟩
theorem md_len (bs : Nat) (v : Value) (w : World) (h : w.cell? ⟨bs, 0, none⟩ = some v) : (method 310 144 (.pointer (some ⟨bs, 0, none⟩)) "Len").run Yba.prog w = .ok (109, v) w := by
  rw [(md0 _ w).1]
  have ha := agg140 w
  simp [loadVar, ha, h, go_sem]
theorem md_less (bs : Nat) (v : Value) (w : World) (h : w.cell? ⟨bs, 0, none⟩ = some v) : (method 310 144 (.pointer (some ⟨bs, 0, none⟩)) "Less").run Yba.prog w = .ok (110, v) w := by
  rw [(md0 _ w).2.1]
  have ha := agg140 w
  simp [loadVar, ha, h, go_sem]
theorem md_swap (bs : Nat) (v : Value) (w : World) (h : w.cell? ⟨bs, 0, none⟩ = some v) : (method 310 144 (.pointer (some ⟨bs, 0, none⟩)) "Swap").run Yba.prog w = .ok (111, v) w := by
  rw [(md0 _ w).2.2]
  have ha := agg140 w
  simp [loadVar, ha, h, go_sem]

set_option maxHeartbeats 1000000 in
set_option maxRecDepth 100000 in
theorem up54 (bs bh n c j0 : Nat) (d : Array En) (w : World) (hs : w.cell? ⟨bs, 0, none⟩ = some (.slice (some ⟨bh, 0, none⟩) n c)) (hne : bs ≠ bh) (hH : HoldsK encE 2 w bh 0 d) (hblk : bh < w.heap.size) (hn : Hid (d.size = n)) (hn2 : n ≤ 5000) (hj : j0 < n) (hU : Up n j0 d) :
    Calls Yba.prog 54 #[.iface 144 (.pointer (some ⟨bs, 0, none⟩)), .int .i64 (j0 : Int)] w fun e w' => e = .returned (.tuple #[]) ∧ ∃ d', TwE w w' bh d' ∧ Hp n d' ∧ PermIn 0 n d d' := by
  have HS : Hid (w.cell? ⟨bs, 0, none⟩ = some (.slice (some ⟨bh, 0, none⟩) n c)) := hs
  have HT0 : Hid (TwE w w bh d) := TwE.refl hH
  have HU : Hid (Up n j0 d) := hU
  clear hs hH hU
  go_enter Yba.func54, Yba.ntmps54
  go_wp2_with fail
  go_loopw [1] (fun vj wr => ∃ (j : Nat) (dk : Array En), vj = .int .i64 (j : Int) ∧ j < n ∧ Hid (TwE w wr bh dk ∧ PermIn 0 n d dk ∧ Up n j dk)) (fun vj _ => (intOf vj).toNat)
  case atStart => exact ⟨j0, d, rfl, hj, HT0.out, permIn_refl _ _ _, HU.out⟩
  case round =>
    clear HT0 HU hj
    obtain ⟨j, dk, rfl, hjn, HK⟩ := hrel
    have hdk : Hid (dk.size = n) := HK.out.2.1.1.trans hn.out
    have hbk : bh < wr.heap.size := HK.out.1.lt hblk
    have hsr : Hid (wr.cell? ⟨bs, 0, none⟩ = some (.slice (some ⟨bh, 0, none⟩) n c)) := HK.out.1.cell HS.out hne
    by_cases h0 : j = 0
    · subst h0
      have hq : (((0 : Nat) : Int) - 1).tdiv 2 = 0 := by decide
      go_wp2
      go_end0
      exact ⟨rfl, dk, HK.out.1, HK.out.2.2.done0, HK.out.2.1⟩
    · obtain ⟨i, hiz, hie⟩ : ∃ i : Nat, ((j : Int) - 1).tdiv 2 = (i : Int) ∧ Hid (i = (j - 1) / 2) := ⟨(j - 1) / 2, by rw [Int.tdiv_eq_ediv_of_nonneg (by omega)]; omega, rfl⟩
      have hij : i < j := by have := hie.out; omega
      have hbe : ((i : Int) == (j : Int)) = false := beq_false_of_ne (by omega)
      have cl := md_less bs _ wr hsr.out
      have c110 := cf110
      have c111 := cf111
      have hl := less110 bh n c j i dk wr HK.out.1.holds hdk.out hn2 hjn (by omega)
      by_cases hx : dk[j]!.at_ < dk[i]!.at_
      · have HX : Hid (dk[j]!.at_ < dk[i]!.at_) := hx
        rw [show decide (dk[j]!.at_ < dk[i]!.at_) = true from decide_eq_true hx] at hl
        clear hx
        go_wp2_with (first | (go_at_call 110; refine hl.mono ?_; clear hl; rintro e w1 ⟨rfl, q, rfl⟩; have cl2 := md_swap bs _ (wr.drewN q) hsr.out; have hsw := swap111 bh n c i j dk (wr.drewN q) HK.out.1.holds hbk hdk.out hn2 (by omega) hjn) | (go_at_call 111; refine hsw.mono ?_; clear hsw; rintro e w2 ⟨rfl, htw⟩; have HTW : Hid (TwE (wr.drewN q) w2 bh (swp dk i j)) := htw; clear htw))
        go_roundw
        case rel =>
          refine ⟨i, swp dk i j, rfl, by omega, (HK.out.1.drewN q).trans HTW.out, permIn_trans _ _ _ _ _ HK.out.2.1 ?_, HK.out.2.2.step hdk.out.symm hie.out (by omega) hjn HX.out⟩
          exact swp_permIn _ _ _ _ _ (Nat.zero_le _) (by omega) (Nat.zero_le _) hjn (by rw [hdk.out]; exact Nat.le_refl _)
        case measure => simp [intOf]; omega
      · have HX : Hid (¬ dk[j]!.at_ < dk[i]!.at_) := hx
        rw [show decide (dk[j]!.at_ < dk[i]!.at_) = false from decide_eq_false hx] at hl
        clear hx
        go_wp2_with (first | (go_at_call 110; refine hl.mono ?_; clear hl; rintro e w1 ⟨rfl, q, rfl⟩))
        go_end0
        exact ⟨rfl, dk, HK.out.1.drewN q, HK.out.2.2.done (by rw [← hie.out]; have := HX.out; omega), HK.out.2.1⟩
end Go.Proofs.Ybulkdpsg

/- S5830C: container/heap: down. -/
import Derived.Test.YbulkdpsgD6
namespace Go.Proofs.Ybulkdpsg
open Go Go.RowKit Go.Sort Go.Proofs Go.Lib
set_option linter.unusedVariables false
set_option linter.unusedSimpArgs false
set_option maxHeartbeats 4000000 in
set_option maxRecDepth 100000 in
theorem down47 (bs bh N c m : Nat) (d : Array En) (w : World) (hs : w.cell? ⟨bs, 0, none⟩ = some (.slice (some ⟨bh, 0, none⟩) N c)) (hne : bs ≠ bh) (hH : HoldsK encE 2 w bh 0 d) (hblk : bh < w.heap.size) (hn : Hid (d.size = N)) (hn2 : N ≤ 5000) (hm : m ≤ N) (hD : Dn m 0 d) :
    Calls Yba.prog 47 #[.iface 144 (.pointer (some ⟨bs, 0, none⟩)), .int .i64 0, .int .i64 (m : Int)] w fun e w' => (∃ b, e = .returned (.bool b)) ∧ ∃ d', TwE w w' bh d' ∧ Hp m d' ∧ PermIn 0 m d d' := by
  have HS : Hid (w.cell? ⟨bs, 0, none⟩ = some (.slice (some ⟨bh, 0, none⟩) N c)) := hs
  have HT0 : Hid (TwE w w bh d) := TwE.refl hH
  have HU : Hid (Dn m 0 d) := hD
  clear hs hH hD
  go_enter Yba.func47, Yba.ntmps47
  go_wp2_with fail
  go_loopw [7] (fun vj wr => ∃ (i : Nat) (dk : Array En), vj = .int .i64 (i : Int) ∧ i ≤ N ∧ Hid (TwE w wr bh dk ∧ PermIn 0 m d dk ∧ Dn m i dk)) (fun vj _ => N + 1 - (intOf vj).toNat)
  case atStart => exact ⟨0, d, rfl, Nat.zero_le _, HT0.out, permIn_refl _ _ _, HU.out⟩
  case round =>
    clear HT0 HU
    obtain ⟨i, dk, rfl, hin, HK⟩ := hrel
    have hdk : Hid (dk.size = N) := HK.out.2.1.1.trans hn.out
    have hbk : bh < wr.heap.size := HK.out.1.lt hblk
    have hsr : Hid (wr.cell? ⟨bs, 0, none⟩ = some (.slice (some ⟨bh, 0, none⟩) N c)) := HK.out.1.cell HS.out hne
    obtain ⟨j1, hj1z, hj1e⟩ : ∃ j1 : Nat, 2 * (i : Int) + 1 = (j1 : Int) ∧ Hid (j1 = 2 * i + 1) := ⟨2 * i + 1, by omega, rfl⟩
    have hj1b : j1 ≤ 10001 := by have := hj1e.out; omega
    by_cases h0 : m ≤ j1
    · have hz : (j1 : Int) ≥ (m : Int) := by omega
      have hzd : decide ((j1 : Int) ≥ (m : Int)) = true := decide_eq_true hz
      go_wp2
      go_ret
      exact ⟨⟨_, rfl⟩, dk, HK.out.1, HK.out.2.2.done (fun k h1 h2 h3 => by have := hj1e.out; omega), HK.out.2.1⟩
    · have hz : ¬ (j1 : Int) ≥ (m : Int) := by omega
      have hzd : decide ((j1 : Int) ≥ (m : Int)) = false := decide_eq_false hz
      have hzn : decide ((j1 : Int) < 0) = false := decide_eq_false (by omega)
      have HLS : Hid (∀ W, HoldsK encE 2 W bh 0 dk → ∀ a b, a < N → b < N → Calls Yba.prog 110 #[.slice (some ⟨bh, 0, none⟩) N c, .int .i64 (a : Int), .int .i64 (b : Int)] W fun e w' => e = .returned (.bool (decide (dk[a]!.at_ < dk[b]!.at_))) ∧ ∃ q', w' = W.drewN q') := fun W h a b ha hb => less110 bh N c a b dk W h hdk.out hn2 ha hb
      have HSW : Hid (∀ W, HoldsK encE 2 W bh 0 dk → bh < W.heap.size → ∀ a b, a < N → b < N → Calls Yba.prog 111 #[.slice (some ⟨bh, 0, none⟩) N c, .int .i64 (a : Int), .int .i64 (b : Int)] W fun e w' => e = .returned (.tuple #[]) ∧ TwE W w' bh (swp dk a b)) := fun W h hb' a b ha hb => swap111 bh N c a b dk W h hb' hdk.out hn2 ha hb
      have c110 := cf110
      have c111 := cf111
      have cl := md_less bs _ wr hsr.out
      obtain ⟨j2, hj2z, hj2e⟩ : ∃ j2 : Nat, (j1 : Int) + 1 = (j2 : Int) ∧ Hid (j2 = j1 + 1) := ⟨j1 + 1, by omega, rfl⟩
      have hj2b : j2 ≤ 10002 := by have := hj2e.out; omega
      by_cases h2 : j2 < m
      · have hz2 : (j2 : Int) < (m : Int) := by omega
        have hl1 := HLS.out wr HK.out.1.holds j2 j1 (by omega) (by omega)
        by_cases hx1 : dk[j2]!.at_ < dk[j1]!.at_
        · have HX1 : Hid (dk[j2]!.at_ < dk[j1]!.at_) := hx1
          rw [show decide (dk[j2]!.at_ < dk[j1]!.at_) = true from decide_eq_true hx1] at hl1
          clear hx1
          have HMIN : Hid (0 < j2 ∧ (j2 - 1) / 2 = i ∧ j2 < m ∧ ∀ k, 0 < k → k < m → (k - 1) / 2 = i → dk[j2]!.at_ ≤ dk[k]!.at_) := by
            have e1 := hj1e.out
            have e2 := hj2e.out
            have h1x := HX1.out
            refine ⟨by omega, by omega, by omega, fun k h1 h2 h3 => ?_⟩
            rcases (show k = j1 ∨ k = j2 by omega) with rfl | rfl <;> omega
          have hjN : j2 < N := by have := HMIN.out.2.2.1; omega
          have hiN : i < N := by have := HMIN.out; omega
          by_cases hx : dk[j2]!.at_ < dk[i]!.at_
          · have HX : Hid (dk[j2]!.at_ < dk[i]!.at_) := hx
            have hdx : decide (dk[j2]!.at_ < dk[i]!.at_) = true := decide_eq_true hx
            clear hx
            go_wp2_with (first | (go_at_call 110; refine hl1.mono ?_; clear hl1; rintro e w1 ⟨rfl, q, rfl⟩; have cl2 := md_less bs _ (wr.drewN q) hsr.out; have hl2 := HLS.out (wr.drewN q) HK.out.1.holds j2 i hjN hiN; rw [hdx] at hl2) | (go_at_call 110; refine hl2.mono ?_; clear hl2; rintro e w2 ⟨rfl, q2, rfl⟩; have cl3 := md_swap bs _ (wr.drewN (q + q2)) hsr.out; have hsw := HSW.out (wr.drewN (q + q2)) HK.out.1.holds hbk i j2 hiN hjN) | (go_at_call 111; refine hsw.mono ?_; clear hsw; rintro e w3 ⟨rfl, htw⟩; have HTW : Hid (TwE (wr.drewN (q + q2)) w3 bh (swp dk i j2)) := htw; clear htw))
            go_roundw
            case rel =>
              obtain ⟨m1, m2, m3, m4⟩ := HMIN.out
              refine ⟨j2, swp dk i j2, rfl, by omega, (HK.out.1.drewN (q + q2)).trans HTW.out, permIn_trans _ _ _ _ _ HK.out.2.1 (swp_permIn _ _ _ _ _ (Nat.zero_le _) (by omega) (Nat.zero_le _) m3 (by rw [hdk.out]; omega)), HK.out.2.2.step (by rw [hdk.out]; omega) m1 m2 m3 HX.out m4⟩
            case measure => have := HMIN.out; simp [intOf]; omega
          · have HX : Hid (¬ dk[j2]!.at_ < dk[i]!.at_) := hx
            have hdx : decide (dk[j2]!.at_ < dk[i]!.at_) = false := decide_eq_false hx
            clear hx
            go_wp2_with (first | (go_at_call 110; refine hl1.mono ?_; clear hl1; rintro e w1 ⟨rfl, q, rfl⟩; have cl2 := md_less bs _ (wr.drewN q) hsr.out; have hl2 := HLS.out (wr.drewN q) HK.out.1.holds j2 i hjN hiN; rw [hdx] at hl2) | (go_at_call 110; refine hl2.mono ?_; clear hl2; rintro e w2 ⟨rfl, q2, rfl⟩))
            go_ret
            exact ⟨⟨_, rfl⟩, dk, HK.out.1.drewN (q + q2), HK.out.2.2.done (fun k h1 h2 h3 => by have := HMIN.out.2.2.2 k h1 h2 h3; have := HX.out; omega), HK.out.2.1⟩
        · have HX1 : Hid (¬ dk[j2]!.at_ < dk[j1]!.at_) := hx1
          rw [show decide (dk[j2]!.at_ < dk[j1]!.at_) = false from decide_eq_false hx1] at hl1
          clear hx1
          have HMIN : Hid (0 < j1 ∧ (j1 - 1) / 2 = i ∧ j1 < m ∧ ∀ k, 0 < k → k < m → (k - 1) / 2 = i → dk[j1]!.at_ ≤ dk[k]!.at_) := by
            have e1 := hj1e.out
            have e2 := hj2e.out
            have h1x := HX1.out
            refine ⟨by omega, by omega, by omega, fun k h1 h2 h3 => ?_⟩
            rcases (show k = j1 ∨ k = j2 by omega) with rfl | rfl <;> omega
          have hjN : j1 < N := by have := HMIN.out.2.2.1; omega
          have hiN : i < N := by have := HMIN.out; omega
          by_cases hx : dk[j1]!.at_ < dk[i]!.at_
          · have HX : Hid (dk[j1]!.at_ < dk[i]!.at_) := hx
            have hdx : decide (dk[j1]!.at_ < dk[i]!.at_) = true := decide_eq_true hx
            clear hx
            go_wp2_with (first | (go_at_call 110; refine hl1.mono ?_; clear hl1; rintro e w1 ⟨rfl, q, rfl⟩; have cl2 := md_less bs _ (wr.drewN q) hsr.out; have hl2 := HLS.out (wr.drewN q) HK.out.1.holds j1 i hjN hiN; rw [hdx] at hl2) | (go_at_call 110; refine hl2.mono ?_; clear hl2; rintro e w2 ⟨rfl, q2, rfl⟩; have cl3 := md_swap bs _ (wr.drewN (q + q2)) hsr.out; have hsw := HSW.out (wr.drewN (q + q2)) HK.out.1.holds hbk i j1 hiN hjN) | (go_at_call 111; refine hsw.mono ?_; clear hsw; rintro e w3 ⟨rfl, htw⟩; have HTW : Hid (TwE (wr.drewN (q + q2)) w3 bh (swp dk i j1)) := htw; clear htw))
            go_roundw
            case rel =>
              obtain ⟨m1, m2, m3, m4⟩ := HMIN.out
              refine ⟨j1, swp dk i j1, rfl, by omega, (HK.out.1.drewN (q + q2)).trans HTW.out, permIn_trans _ _ _ _ _ HK.out.2.1 (swp_permIn _ _ _ _ _ (Nat.zero_le _) (by omega) (Nat.zero_le _) m3 (by rw [hdk.out]; omega)), HK.out.2.2.step (by rw [hdk.out]; omega) m1 m2 m3 HX.out m4⟩
            case measure => have := HMIN.out; simp [intOf]; omega
          · have HX : Hid (¬ dk[j1]!.at_ < dk[i]!.at_) := hx
            have hdx : decide (dk[j1]!.at_ < dk[i]!.at_) = false := decide_eq_false hx
            clear hx
            go_wp2_with (first | (go_at_call 110; refine hl1.mono ?_; clear hl1; rintro e w1 ⟨rfl, q, rfl⟩; have cl2 := md_less bs _ (wr.drewN q) hsr.out; have hl2 := HLS.out (wr.drewN q) HK.out.1.holds j1 i hjN hiN; rw [hdx] at hl2) | (go_at_call 110; refine hl2.mono ?_; clear hl2; rintro e w2 ⟨rfl, q2, rfl⟩))
            go_ret
            exact ⟨⟨_, rfl⟩, dk, HK.out.1.drewN (q + q2), HK.out.2.2.done (fun k h1 h2 h3 => by have := HMIN.out.2.2.2 k h1 h2 h3; have := HX.out; omega), HK.out.2.1⟩
      · have hz2 : ¬ (j2 : Int) < (m : Int) := by omega
        have HMIN : Hid (0 < j1 ∧ (j1 - 1) / 2 = i ∧ j1 < m ∧ ∀ k, 0 < k → k < m → (k - 1) / 2 = i → dk[j1]!.at_ ≤ dk[k]!.at_) := by
          have e1 := hj1e.out
          have e2 := hj2e.out
          refine ⟨by omega, by omega, by omega, fun k h1 h2 h3 => ?_⟩
          obtain rfl : k = j1 := by omega
          exact Int.le_refl _
        have hjN : j1 < N := by have := HMIN.out.2.2.1; omega
        have hiN : i < N := by have := HMIN.out; omega
        have hl2 := HLS.out wr HK.out.1.holds j1 i hjN hiN
        by_cases hx : dk[j1]!.at_ < dk[i]!.at_
        · have HX : Hid (dk[j1]!.at_ < dk[i]!.at_) := hx
          have hdx : decide (dk[j1]!.at_ < dk[i]!.at_) = true := decide_eq_true hx
          rw [hdx] at hl2
          clear hx
          go_wp2_with (first | (go_at_call 110; refine hl2.mono ?_; clear hl2; rintro e w2 ⟨rfl, q2, rfl⟩; have cl3 := md_swap bs _ (wr.drewN q2) hsr.out; have hsw := HSW.out (wr.drewN q2) HK.out.1.holds hbk i j1 hiN hjN) | (go_at_call 111; refine hsw.mono ?_; clear hsw; rintro e w3 ⟨rfl, htw⟩; have HTW : Hid (TwE (wr.drewN q2) w3 bh (swp dk i j1)) := htw; clear htw))
          go_roundw
          case rel =>
            obtain ⟨m1, m2, m3, m4⟩ := HMIN.out
            refine ⟨j1, swp dk i j1, rfl, by omega, (HK.out.1.drewN q2).trans HTW.out, permIn_trans _ _ _ _ _ HK.out.2.1 (swp_permIn _ _ _ _ _ (Nat.zero_le _) (by omega) (Nat.zero_le _) m3 (by rw [hdk.out]; omega)), HK.out.2.2.step (by rw [hdk.out]; omega) m1 m2 m3 HX.out m4⟩
          case measure => have := HMIN.out; simp [intOf]; omega
        · have HX : Hid (¬ dk[j1]!.at_ < dk[i]!.at_) := hx
          have hdx : decide (dk[j1]!.at_ < dk[i]!.at_) = false := decide_eq_false hx
          rw [hdx] at hl2
          clear hx
          go_wp2_with (first | (go_at_call 110; refine hl2.mono ?_; clear hl2; rintro e w2 ⟨rfl, q2, rfl⟩))
          go_ret
          exact ⟨⟨_, rfl⟩, dk, HK.out.1.drewN q2, HK.out.2.2.done (fun k h1 h2 h3 => by have := HMIN.out.2.2.2 k h1 h2 h3; have := HX.out; omega), HK.out.2.1⟩
end Go.Proofs.Ybulkdpsg

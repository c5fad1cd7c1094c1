/- S5830C: slices.symMergeCmpFunc: the general case, the middle left of m. -/
import Derived.Test.YbulkdpsgC9a
namespace Go.Proofs.Ybulkdpsg
open Go Go.RowKit Go.Sort Go.Proofs Go.Lib
set_option linter.unusedVariables false
set_option maxHeartbeats 8000000 in
set_option maxRecDepth 1000000 in
theorem sym_gen_big (K : Nat) (hK : Hid (K = 5)) (zE : ∀ w, (Go.sizeOf 105).run Yba.prog w = .ok K w) (blk cap a m b mid lo hi : Nat) (d : Array Tk) (w : World) (R : Hid (Rng a m b mid lo hi)) (hbig : mid < m) (IH : Hid (SymIH blk cap (b - a) d.size)) (hH : HoldsK encT 5 w blk 0 d) (hblk : blk < w.heap.size) (hb : b ≤ d.size) (hsz : d.size ≤ 2048) (hL : SortedIn lexT a m d) (hR : SortedIn lexT m b d) (hrow : RowsLR a m b d) :
    Calls Yba.prog 60 #[.slice (some ⟨blk, 0, none⟩) d.size cap, .int .i64 (a : Int), .int .i64 (m : Int), .int .i64 (b : Int), .func (.func 33) #[] #[]] w fun e w' => e = .returned (.tuple #[]) ∧ ∃ d', Tw w w' blk d' ∧ PermIn a b d d' ∧ SortedIn lexT a b d' := by
  have mixed := mixedYba
  have aE := agg105
  have e33 := en33
  have HST : Hid (Tw w w blk d) := Tw.refl hH
  have HL0 : Hid (SortedIn lexT a m d) := hL
  have HR0 : Hid (SortedIn lexT m b d) := hR
  have HRW : Hid (RowsLR a m b d) := hrow
  have ham : a + 2 ≤ m := R.out.ha
  have hmb : m + 2 ≤ b := R.out.hm
  have hma : ((m : Int) - (a : Int) == 1) = false := beq_false_of_ne (by omega)
  have hbm : ((b : Int) - (m : Int) == 1) = false := beq_false_of_ne (by omega)
  have hmid : ((a : Int) + (b : Int)) / 2 = (mid : Int) := by have := R.out.hmid; omega
  have hmid1 : a < mid := by have := R.out.hmid; omega
  have hmid2 : mid < b := by have := R.out.hmid; omega
  obtain ⟨pp, hpp, hppe⟩ : ∃ pp : Nat, (mid : Int) + (m : Int) - 1 = (pp : Int) ∧ Hid (pp = mid + m - 1) := ⟨mid + m - 1, by omega, rfl⟩
  obtain ⟨nn, hnn, hnne⟩ : ∃ nn : Nat, (mid : Int) + (m : Int) = (nn : Int) ∧ Hid (nn = mid + m) := ⟨mid + m, by omega, rfl⟩
  have hpp : (nn : Int) - 1 = (pp : Int) := by rw [← hnn]; exact hpp
  have hppb : pp ≤ 4096 := by have := hppe.out; omega
  have hnnb : nn ≤ 4096 := by have := hnne.out; omega
  have hgz : (mid : Int) < (m : Int) := by omega
  have hlo : (nn : Int) - (b : Int) = (lo : Int) := by have := R.out.lohi; have := hnne.out; omega
  have hhi : hi = mid := by have := R.out.lohi; omega
  have hlohi : lo ≤ hi := by have := R.out.lohi; have := R.out.hmid; omega
  have HHI : Hid (hi = mid) := hhi
  clear hhi
  clear hH hL hR hrow
  go_enter Yba.func60, Yba.ntmps60
  go_wp2
  go_loopw [20, 21] (fun si sj wr => ∃ (s r : Nat), si = .int .i64 (s : Int) ∧ sj = .int .i64 (r : Int) ∧ lo ≤ s ∧ s ≤ r ∧ r ≤ hi ∧ Hid (Tw w wr blk d) ∧ Hid (Srch d (mid + m - 1) lo hi s r)) (fun si sj _ => (intOf sj).toNat - (intOf si).toNat)
  case atStart => exact ⟨lo, hi, by first | rfl | go_num, by rw [HHI.out], Nat.le_refl _, hlohi, Nat.le_refl _, HST, ⟨fun c h1 h2 => by omega, fun c h1 h2 => by omega⟩⟩
  case round =>
    obtain ⟨s, r, rfl, rfl, hls, hsr, hrh, HT, HS⟩ := hrel
    have hbk : blk < wr.heap.size := HT.out.lt hblk
    have hrg := R.out.lohi
    by_cases hlt : s < r
    · obtain ⟨c, hhz, hh1, hh2⟩ : ∃ c : Nat, ((s : Int) + (r : Int)) / 2 = (c : Int) ∧ s ≤ c ∧ c < r := ⟨(s + r) / 2, by omega, by omega, by omega⟩
      obtain ⟨q, hqz, hqe⟩ : ∃ q : Nat, (pp : Int) - (c : Int) = (q : Int) ∧ Hid (q = mid + m - 1 - c) := ⟨mid + m - 1 - c, by have := hppe.out; omega, rfl⟩
      have hq1 : m ≤ q := by have := hqe.out; omega
      have hq2 : q < b := by have := hqe.out; have := R.out.hmid; omega
      have hc1 : a ≤ c := by have := R.out.hmid; omega
      have hc2 : c < m := by omega
      obtain ⟨cx, cy, cf⟩ := cmp_facts K hK.out wr blk d q c HT.out.holds hbk (by omega) (by omega)
      have hcl : decide (cfT d[q]! d[c]! < 0) = lexT d[q]! d[c]! := cf_lex (HRW.out c q hc1 hc2 hq1 hq2)
      obtain ⟨lj, lp, hcg⟩ := cf
      generalize cfT d[q]! d[c]! = cv at hcl hcg
      have hwq : IntKind.i64.wrap (q : Int) = (q : Int) := by rw [IntKind.wrap_i64]; omega
      have jz : (q : Int) < (d.size : Int) := by omega
      have jz1 : (c : Int) < (d.size : Int) := by omega
      clear hrg
      by_cases hlv : cv < 0
      · have HL : Hid (lexT d[mid + m - 1 - c]! d[c]! = true) := by show _ = _; rw [← hqe.out, ← hcl]; exact decide_eq_true hlv
        have hdv : decide (cv < 0) = true := decide_eq_true hlv
        clear hcl
        go_wp2_with fail
        go_quiet_grown (first | (go_at_fn 33; refine Calls.grown_of (hcg _ _)))
        go_wp2
        go_roundw
        case rel => exact ⟨s, c, rfl, rfl, hls, hh1, by omega, HT.out.trans (tw_grown HT.out.holds hbk nq osq), HS.out.down R.out HL0.out HR0.out (by omega) (by omega) HL.out⟩
        case measure => simp [intOf]; omega
      · have HL : Hid (lexT d[mid + m - 1 - c]! d[c]! = false) := by show _ = _; rw [← hqe.out, ← hcl]; exact decide_eq_false hlv
        have hdv : decide (cv < 0) = false := decide_eq_false hlv
        clear hcl
        go_wp2_with fail
        go_quiet_grown (first | (go_at_fn 33; refine Calls.grown_of (hcg _ _)))
        go_wp2
        go_roundw
        case rel => exact ⟨c + 1, r, by go_num, rfl, by omega, by omega, hrh, HT.out.trans (tw_grown HT.out.holds hbk nq osq), HS.out.up R.out HL0.out HR0.out (by omega) (by omega) HL.out⟩
        case measure => simp [intOf]; omega
    · obtain rfl : s = r := by omega
      obtain ⟨fin, hfin, hfe⟩ : ∃ fin : Nat, (nn : Int) - (s : Int) = (fin : Int) ∧ fin + s = mid + m := ⟨mid + m - s, by have := hnne.out; omega, by omega⟩
      have HF : Hid (Found d a m b mid s fin lo hi) := ⟨HS.out.s1, HS.out.s2, R.out.lohi, hls, hrh, hfe⟩
      clear hrg
      have hrg := R.out.lohi
      have hme := R.out.hmid
      have b1 : a ≤ s := by omega
      have b2 : s ≤ m := by omega
      have b3 : s ≤ mid := by omega
      have b4 : m ≤ fin := by omega
      have b5 : mid ≤ fin := by omega
      have b6 : fin ≤ b := by omega
      clear hrg hme
      go_upto_region 39 with fail
      go_cut [185] (fun c wx => c = .bool (decide (s < m ∧ m < fin)) ∧ wr = wx)
      case first =>
       as_aux_lemma =>
        by_cases q1 : s < m
        · have z1 : (s : Int) < (m : Int) := by omega
          by_cases q2 : m < fin
          · have z2 : (m : Int) < (fin : Int) := by omega
            go_wp2
            go_meet
            exact ⟨congrArg Value.bool (decide_eq_true (p := s < m ∧ m < fin) ⟨q1, q2⟩).symm, rfl⟩
          · have z2 : ¬ (m : Int) < (fin : Int) := by omega
            go_wp2
            go_meet
            exact ⟨congrArg Value.bool (decide_eq_false (p := s < m ∧ m < fin) (fun h => q2 h.2)).symm, rfl⟩
        · have z1 : ¬ (s : Int) < (m : Int) := by omega
          go_wp2
          go_meet
          exact ⟨congrArg Value.bool (decide_eq_false (p := s < m ∧ m < fin) (fun h => q1 h.1)).symm, rfl⟩
      case rest =>
      as_aux_lemma =>
      obtain ⟨rfl, rfl⟩ := hcut
      go_upto_if 185 with fail
      go_cut [] (fun wx => ∃ d1, Hid (IsRot d d1 s m fin) ∧ Hid (Tw w wx blk d1))
      case first =>
       as_aux_lemma =>
        by_cases hq : s < m ∧ m < fin
        · have hcR := rotate blk cap s m fin d (.func (.func 33) #[] #[]) wr HT.out.holds hbk (by omega) (by omega) (by omega) hsz
          have hdq : decide (s < m ∧ m < fin) = true := decide_eq_true hq
          go_wp2_with (first | (go_at_call 67; refine hcR.mono ?_; rintro e w1 ⟨rfl, d1, hrot, htw1⟩; have HROT : Hid (IsRot d d1 s m fin) := hrot; have HTW1 : Hid (Tw w w1 blk d1) := HT.out.trans htw1; clear hrot htw1))
          go_meet
          exact ⟨d1, HROT, HTW1⟩
        · have hdq : decide (s < m ∧ m < fin) = false := decide_eq_false hq
          go_wp2
          go_meet
          exact ⟨d, rot_same d s m fin (by omega) (by omega), HT⟩
      case rest =>
      as_aux_lemma =>
      obtain ⟨d1, HROT, HTW1⟩ := hcut
      obtain ⟨w1, hw1⟩ : ∃ x, x = wc := ⟨wc, rfl⟩
      subst hw1
      have hbk1 : blk < w1.heap.size := HTW1.out.lt hblk
      obtain ⟨_, _, _, _, _, _, hsp⟩ := split_ok ham hmb hb R.out.hmid HL0.out HR0.out HRW.out HF.out HROT.out
      have HSP : Hid (Split d1 a mid b s fin) := hsp
      have hd1 : d1.size = d.size := HROT.out.size
      clear hsp
      go_upto_region 41 with fail
      go_cut [199] (fun c wx => c = .bool (decide (a < s ∧ s < mid)) ∧ w1 = wx)
      case first =>
       as_aux_lemma =>
        by_cases q1 : a < s
        · have z1 : (a : Int) < (s : Int) := by omega
          by_cases q2 : s < mid
          · have z2 : (s : Int) < (mid : Int) := by omega
            go_wp2
            go_meet
            exact ⟨congrArg Value.bool (decide_eq_true (p := a < s ∧ s < mid) ⟨q1, q2⟩).symm, rfl⟩
          · have z2 : ¬ (s : Int) < (mid : Int) := by omega
            go_wp2
            go_meet
            exact ⟨congrArg Value.bool (decide_eq_false (p := a < s ∧ s < mid) (fun h => q2 h.2)).symm, rfl⟩
        · have z1 : ¬ (a : Int) < (s : Int) := by omega
          go_wp2
          go_meet
          exact ⟨congrArg Value.bool (decide_eq_false (p := a < s ∧ s < mid) (fun h => q1 h.1)).symm, rfl⟩
      case rest =>
      as_aux_lemma =>
      obtain ⟨rfl, rfl⟩ := hcut
      go_upto_if 199 with fail
      go_cut [] (fun wx => ∃ d2, Hid (PermIn a mid d1 d2 ∧ SortedIn lexT a mid d2) ∧ Hid (Tw w wx blk d2))
      case first =>
       as_aux_lemma =>
        by_cases hq : a < s ∧ s < mid
        · have hx := IH.out a s mid d1 w1 hd1 (by omega) (by omega) (by omega) (by omega) HTW1.out.holds hbk1 HSP.out.r1 HSP.out.r2 HSP.out.l1
          unfold SymOk at hx
          rw [hd1] at hx
          have hdq : decide (a < s ∧ s < mid) = true := decide_eq_true hq
          go_wp2_with (first | (go_at_call 60; refine hx.mono ?_; clear hx; rintro e w2 ⟨rfl, d2, htw2, hp2, ho2⟩; have HTW2 : Hid (Tw w w2 blk d2) := HTW1.out.trans htw2; have HP2 : Hid (PermIn a mid d1 d2 ∧ SortedIn lexT a mid d2) := ⟨hp2, ho2⟩; clear htw2 hp2 ho2))
          go_meet
          exact ⟨d2, HP2, HTW2⟩
        · have hdq : decide (a < s ∧ s < mid) = false := decide_eq_false hq
          go_wp2
          go_meet
          refine ⟨d1, ⟨permIn_refl _ _ _, ?_⟩, HTW1⟩
          by_cases q1 : a < s
          · exact fun p q h1 h2 h3 => HSP.out.r1 p q h1 h2 (by omega)
          · exact fun p q h1 h2 h3 => HSP.out.r2 p q (by omega) h2 h3
      case rest =>
      as_aux_lemma =>
      obtain ⟨d2, HP2, HTW2⟩ := hcut
      obtain ⟨w2, hw2⟩ : ∃ x, x = wc := ⟨wc, rfl⟩
      subst hw2
      have hbk2 : blk < w2.heap.size := HTW2.out.lt hblk
      have hd2 : d2.size = d.size := HP2.out.1.1.trans hd1
      have HS2 : Hid (SortedIn lexT mid fin d2 ∧ SortedIn lexT fin b d2 ∧ RowsLR mid fin b d2) := by
        refine ⟨fun p q h1 h2 h3 => ?_, fun p q h1 h2 h3 => ?_, fun p q h1 h2 h3 h4 => ?_⟩
        · rw [HP2.out.1.2.1 p (Or.inr (by omega)), HP2.out.1.2.1 q (Or.inr (by omega))]; exact HSP.out.r3 p q h1 h2 h3
        · rw [HP2.out.1.2.1 p (Or.inr (by omega)), HP2.out.1.2.1 q (Or.inr (by omega))]; exact HSP.out.r4 p q h1 h2 h3
        · rw [HP2.out.1.2.1 p (Or.inr (by omega)), HP2.out.1.2.1 q (Or.inr (by omega))]; exact HSP.out.l2 p q h1 h2 h3 h4
      go_upto_region 43 with fail
      go_cut [213] (fun c wx => c = .bool (decide (mid < fin ∧ fin < b)) ∧ w2 = wx)
      case first =>
       as_aux_lemma =>
        by_cases q1 : mid < fin
        · have z1 : (mid : Int) < (fin : Int) := by omega
          by_cases q2 : fin < b
          · have z2 : (fin : Int) < (b : Int) := by omega
            go_wp2
            go_meet
            exact ⟨congrArg Value.bool (decide_eq_true (p := mid < fin ∧ fin < b) ⟨q1, q2⟩).symm, rfl⟩
          · have z2 : ¬ (fin : Int) < (b : Int) := by omega
            go_wp2
            go_meet
            exact ⟨congrArg Value.bool (decide_eq_false (p := mid < fin ∧ fin < b) (fun h => q2 h.2)).symm, rfl⟩
        · have z1 : ¬ (mid : Int) < (fin : Int) := by omega
          go_wp2
          go_meet
          exact ⟨congrArg Value.bool (decide_eq_false (p := mid < fin ∧ fin < b) (fun h => q1 h.1)).symm, rfl⟩
      case rest =>
      as_aux_lemma =>
      obtain ⟨rfl, rfl⟩ := hcut
      by_cases hq : mid < fin ∧ fin < b
      · have hx := IH.out mid fin b d2 w2 hd2 (by omega) (by omega) (by omega) (by omega) HTW2.out.holds hbk2 HS2.out.1 HS2.out.2.1 HS2.out.2.2
        unfold SymOk at hx
        rw [hd2] at hx
        have hdq : decide (mid < fin ∧ fin < b) = true := decide_eq_true hq
        go_wp2_with (first | (go_at_call 60; refine hx.mono ?_; clear hx; rintro e w3 ⟨rfl, d3, htw3, hp3, ho3⟩; have HTW3 : Hid (Tw w w3 blk d3) := HTW2.out.trans htw3; have HP3 : Hid (PermIn mid b d2 d3 ∧ SortedIn lexT mid b d3) := ⟨hp3, ho3⟩; clear htw3 hp3 ho3))
        go_end0
        obtain ⟨k1, k2⟩ := join_ok hb (by omega) (by omega) (by omega) (by omega) (by omega) (by omega) HROT.out HSP.out HP2.out.1 HP2.out.2 HP3.out.1 HP3.out.2
        exact ⟨rfl, d3, HTW3.out, k1, k2⟩
      · have hdq : decide (mid < fin ∧ fin < b) = false := decide_eq_false hq
        go_wp2
        go_end0
        have o3 : SortedIn lexT mid b d2 := by
          by_cases q1 : mid < fin
          · exact fun p q h1 h2 h3 => HS2.out.1 p q h1 h2 (by omega)
          · exact fun p q h1 h2 h3 => HS2.out.2.1 p q (by omega) h2 h3
        obtain ⟨k1, k2⟩ := join_ok hb (by omega) (by omega) (by omega) (by omega) (by omega) (by omega) HROT.out HSP.out HP2.out.1 HP2.out.2 (permIn_refl _ _ _) o3
        exact ⟨rfl, d2, HTW2.out, k1, k2⟩
end Go.Proofs.Ybulkdpsg

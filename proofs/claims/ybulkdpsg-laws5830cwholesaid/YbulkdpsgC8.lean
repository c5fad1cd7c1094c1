/- S5830C: slices.symMergeCmpFunc: one element on the left, one on the right. -/
import Derived.Test.YbulkdpsgC7
import Derived.Laws.Bits64b
import Derived.Laws.ShiftsVarLaws
import Derived.Laws.BitsAllLaws
namespace Go.Proofs.Ybulkdpsg
open Go Go.RowKit Go.Sort Go.Proofs Go.Lib
set_option linter.unusedVariables false

theorem rot_push {d dk : Array Tk} {a k : Nat} (h : IsRot d dk a (a + 1) (k + 1)) (hak : a ≤ k) (hk : k + 1 < d.size) : IsRot d (swp dk k (k + 1)) a (a + 1) (k + 1 + 1) := by
  have hs := h.size
  refine ⟨(size_swp _ _ _).trans hs, fun p hp => ?_⟩
  rw [swp_get dk (by omega) (by omega)]
  by_cases c1 : p = k + 1
  · rw [if_pos c1, h.get k (by omega), if_neg (by omega), if_pos (by omega), if_neg (by omega), if_pos (by omega)]
    congr 1; omega
  · rw [if_neg c1]
    by_cases c2 : p = k
    · rw [if_pos c2, h.get (k + 1) (by omega), if_neg (by omega), if_neg (by omega), if_pos (by omega)]
      congr 1; omega
    · rw [if_neg c2, h.get p hp]
      by_cases c3 : a ≤ p ∧ p < a + (k + 1 - (a + 1))
      · rw [if_pos c3, if_pos (by omega)]
      · rw [if_neg c3, if_neg (by omega), if_neg (by omega), if_neg (by omega)]
theorem rot_pull {d dk : Array Tk} {m k : Nat} (h : IsRot d dk (k + 1) m (m + 1)) (hkm : k + 1 ≤ m) (hm : m < d.size) : IsRot d (swp dk (k + 1) k) k m (m + 1) := by
  have hs := h.size
  refine ⟨(size_swp _ _ _).trans hs, fun p hp => ?_⟩
  rw [swp_get dk (by omega) (by omega)]
  by_cases c1 : p = k
  · rw [if_pos c1, h.get (k + 1) (by omega), if_pos (by omega), if_pos (by omega)]
    congr 1; omega
  · rw [if_neg c1]
    by_cases c2 : p = k + 1
    · rw [if_pos c2, h.get k (by omega), if_neg (by omega), if_neg (by omega), if_neg (by omega), if_pos (by omega)]
      congr 1; omega
    · rw [if_neg c2, h.get p hp]
      by_cases c3 : k + 1 + (m + 1 - m) ≤ p ∧ p < m + 1
      · rw [if_neg (by omega), if_pos c3, if_neg (by omega), if_pos (by omega)]
      · rw [if_neg (by omega), if_neg c3, if_neg (by omega), if_neg (by omega)]

set_option maxHeartbeats 4000000 in
set_option maxRecDepth 1000000 in
theorem sym_left (K : Nat) (hK : Hid (K = 5)) (zE : ∀ w, (Go.sizeOf 105).run Yba.prog w = .ok K w) (blk cap a m b : Nat) (hm : Hid (m = a + 1)) (d : Array Tk) (w : World) (hH : HoldsK encT 5 w blk 0 d) (hblk : blk < w.heap.size) (hab : m < b) (hb : b ≤ d.size) (hsz : d.size ≤ 2048) (hR : SortedIn lexT m b d) (hrow : RowsLR a m b d) :
    Calls Yba.prog 60 #[.slice (some ⟨blk, 0, none⟩) d.size cap, .int .i64 (a : Int), .int .i64 (m : Int), .int .i64 (b : Int), .func (.func 33) #[] #[]] w fun e w' => e = .returned (.tuple #[]) ∧ ∃ d', Tw w w' blk d' ∧ PermIn a b d d' ∧ SortedIn lexT a b d' := by
  have mixed := mixedYba
  have aE := agg105
  have e33 := en33
  have HST : Hid (Tw w w blk d) := Tw.refl hH
  have HR : Hid (SortedIn lexT m b d) := hR
  have HRW : Hid (RowsLR a m b d) := hrow
  have hma : (m : Int) - (a : Int) = 1 := by have := hm.out; omega
  have ham : a < m := by have := hm.out; omega
  clear hH hR hrow
  go_enter Yba.func60, Yba.ntmps60
  go_wp2
  go_loopw [10, 11] (fun si sj wr => ∃ (i j : Nat), si = .int .i64 (i : Int) ∧ sj = .int .i64 (j : Int) ∧ m ≤ i ∧ i ≤ j ∧ j ≤ b ∧ Hid (Tw w wr blk d) ∧ Hid ((∀ p, m ≤ p → p < i → lexT d[p]! d[a]! = true) ∧ (∀ p, j ≤ p → p < b → lexT d[p]! d[a]! = false))) (fun si sj _ => (intOf sj).toNat - (intOf si).toNat)
  case atStart => exact ⟨m, b, rfl, rfl, Nat.le_refl _, by omega, Nat.le_refl _, HST, fun p h1 h2 => by omega, fun p h1 h2 => by omega⟩
  case round =>
    obtain ⟨i, j, rfl, rfl, hai, hij, hjb, HT, HS⟩ := hrel
    have hbk : blk < wr.heap.size := HT.out.lt hblk
    by_cases hlt : i < j
    · obtain ⟨h, hhz, hh1, hh2⟩ : ∃ h : Nat, ((i : Int) + (j : Int)) / 2 = (h : Int) ∧ i ≤ h ∧ h < j := ⟨(i + j) / 2, by omega, by omega, by omega⟩
      obtain ⟨cx, cy, cf⟩ := cmp_facts K hK.out wr blk d h a HT.out.holds hbk (by omega) (by omega)
      have hcl : decide (cfT d[h]! d[a]! < 0) = lexT d[h]! d[a]! := cf_lex (HRW.out a h (Nat.le_refl _) (by omega) (by omega) (by omega))
      obtain ⟨lj, lp, hcg⟩ := cf
      generalize cfT d[h]! d[a]! = cv at hcl hcg
      have jz : (h : Int) < (d.size : Int) := by omega
      have jz1 : (a : Int) < (d.size : Int) := by omega
      by_cases hlv : cv < 0
      · have HL : Hid (lexT d[h]! d[a]! = true) := by show _ = _; rw [← hcl]; exact decide_eq_true hlv
        clear hcl
        go_wp2_with fail
        go_quiet_grown (first | (go_at_fn 33; refine Calls.grown_of (hcg _ _)))
        go_wp2
        go_roundw
        case rel =>
          refine ⟨h + 1, j, by go_num, rfl, by omega, by omega, hjb, HT.out.trans (tw_grown HT.out.holds hbk nq osq), fun p h1 h2 => ?_, HS.out.2⟩
          rcases Nat.lt_or_eq_of_le (show p ≤ h by omega) with h3 | h3
          · exact lex_lt_of' HL.out (HR.out p h h1 h3 (by omega))
          · subst h3; exact HL.out
        case measure => simp [intOf]; omega
      · have HL : Hid (lexT d[h]! d[a]! = false) := by show _ = _; rw [← hcl]; exact decide_eq_false hlv
        clear hcl
        go_wp2_with fail
        go_quiet_grown (first | (go_at_fn 33; refine Calls.grown_of (hcg _ _)))
        go_wp2
        go_roundw
        case rel =>
          refine ⟨i, h, rfl, rfl, hai, by omega, by omega, HT.out.trans (tw_grown HT.out.holds hbk nq osq), HS.out.1, fun p h1 h2 => ?_⟩
          exact lex_le_trans HL.out (le_of_sorted HR.out (by omega) h1 h2)
        case measure => simp [intOf]; omega
    · obtain rfl : i = j := by omega
      have HST2 : Hid (Tw w wr blk d) := HT
      go_wp2
      go_loopw [13] (fun sk wr => ∃ (k : Nat) (dk : Array Tk), sk = .int .i64 (k : Int) ∧ a ≤ k ∧ k + 1 ≤ i ∧ Hid (Tw w wr blk dk) ∧ Hid (IsRot d dk a (a + 1) (k + 1))) (fun sk _ => i - (intOf sk).toNat)
      case atStart => exact ⟨a, d, rfl, Nat.le_refl _, by omega, HST2, rot_same d a (a + 1) (a + 1) (Or.inr rfl) (by omega)⟩
      case round =>
        obtain ⟨k, dk, rfl, hak, hki, HT3, HRt⟩ := hrel
        have hds : dk.size = d.size := HRt.out.size
        have hbk3 : blk < wr.heap.size := HT3.out.lt hblk
        by_cases hlt2 : k + 1 < i
        · have hz : (k : Int) < (i : Int) - 1 := by omega
          obtain ⟨ci, cj, sf⟩ := swap_facts K hK.out wr blk dk k (k + 1) HT3.out.holds hbk3 (by omega) (by omega)
          obtain ⟨li2, lj2, s1, s2, hsi, hsj, htw⟩ := sf
          have HTw : Hid _ := htw
          clear htw
          have jz : (k : Int) + 1 < (d.size : Int) := by omega
          have jz1 : (k : Int) < (d.size : Int) := by omega
          have p0 : (0 : Int) ≤ (k : Int) + 1 := by omega
          have e0 : ((k : Int) + 1).toNat = k + 1 := by omega
          go_wp2_with fail
          go_big_region_o
          all_goals go_wp2
          go_roundw
          case rel => exact ⟨k + 1, swp dk k (k + 1), by go_num, by omega, by omega, HT3.out.trans HTw.out, rot_push HRt.out hak (by omega)⟩
          case measure => simp [intOf]; omega
        · have hz : ¬ (k : Int) < (i : Int) - 1 := by omega
          go_wp2
          ((try simp only [Exit.inBlock, Exit.then]); refine bodyPost_ret (results_none rfl _ _ _) rfl ?_)
          obtain rfl : i = k + 1 := by omega
          obtain ⟨h1, h2⟩ := merge_left hm.out hai hjb hb HR.out HS.out.1 HS.out.2 (by rw [hm.out]; exact HRt.out)
          exact ⟨rfl, dk, HT3.out, h1, h2⟩

set_option maxHeartbeats 4000000 in
set_option maxRecDepth 1000000 in
theorem sym_right (K : Nat) (hK : Hid (K = 5)) (zE : ∀ w, (Go.sizeOf 105).run Yba.prog w = .ok K w) (blk cap a m b : Nat) (hm : Hid (b = m + 1)) (ham : a + 2 ≤ m) (d : Array Tk) (w : World) (hH : HoldsK encT 5 w blk 0 d) (hblk : blk < w.heap.size) (hb : b ≤ d.size) (hsz : d.size ≤ 2048) (hL : SortedIn lexT a m d) (hrow : RowsLR a m b d) :
    Calls Yba.prog 60 #[.slice (some ⟨blk, 0, none⟩) d.size cap, .int .i64 (a : Int), .int .i64 (m : Int), .int .i64 (b : Int), .func (.func 33) #[] #[]] w fun e w' => e = .returned (.tuple #[]) ∧ ∃ d', Tw w w' blk d' ∧ PermIn a b d d' ∧ SortedIn lexT a b d' := by
  have mixed := mixedYba
  have aE := agg105
  have e33 := en33
  have HST : Hid (Tw w w blk d) := Tw.refl hH
  have HL0 : Hid (SortedIn lexT a m d) := hL
  have HRW : Hid (RowsLR a m b d) := hrow
  have hma : ((m : Int) - (a : Int) == 1) = false := beq_false_of_ne (by omega)
  have hbm : (b : Int) - (m : Int) = 1 := by have := hm.out; omega
  have hmb : m < b := by have := hm.out; omega
  clear hH hL hrow
  go_enter Yba.func60, Yba.ntmps60
  go_wp2
  go_loopw [14, 15] (fun si sj wr => ∃ (i j : Nat), si = .int .i64 (i : Int) ∧ sj = .int .i64 (j : Int) ∧ a ≤ i ∧ i ≤ j ∧ j ≤ m ∧ Hid (Tw w wr blk d) ∧ Hid ((∀ p, a ≤ p → p < i → lexT d[m]! d[p]! = false) ∧ (∀ p, j ≤ p → p < m → lexT d[m]! d[p]! = true))) (fun si sj _ => (intOf sj).toNat - (intOf si).toNat)
  case atStart => exact ⟨a, m, rfl, rfl, Nat.le_refl _, by omega, Nat.le_refl _, HST, fun p h1 h2 => by omega, fun p h1 h2 => by omega⟩
  case round =>
    obtain ⟨i, j, rfl, rfl, hai, hij, hjm, HT, HS⟩ := hrel
    have hbk : blk < wr.heap.size := HT.out.lt hblk
    by_cases hlt : i < j
    · obtain ⟨h, hhz, hh1, hh2⟩ : ∃ h : Nat, ((i : Int) + (j : Int)) / 2 = (h : Int) ∧ i ≤ h ∧ h < j := ⟨(i + j) / 2, by omega, by omega, by omega⟩
      obtain ⟨cx, cy, cf⟩ := cmp_facts K hK.out wr blk d m h HT.out.holds hbk (by omega) (by omega)
      have hcl : decide (cfT d[m]! d[h]! < 0) = lexT d[m]! d[h]! := cf_lex (HRW.out h m (by omega) (by omega) (Nat.le_refl _) (by omega))
      obtain ⟨lj, lp, hcg⟩ := cf
      generalize cfT d[m]! d[h]! = cv at hcl hcg
      have jz : (h : Int) < (d.size : Int) := by omega
      have jz1 : (m : Int) < (d.size : Int) := by omega
      by_cases hlv : cv < 0
      · have HL : Hid (lexT d[m]! d[h]! = true) := by show _ = _; rw [← hcl]; exact decide_eq_true hlv
        have hdv : decide (cv < 0) = true := decide_eq_true hlv
        clear hcl
        go_wp2_with fail
        go_quiet_grown (first | (go_at_fn 33; refine Calls.grown_of (hcg _ _)))
        go_wp2
        go_roundw
        case rel =>
          refine ⟨i, h, rfl, rfl, hai, by omega, by omega, HT.out.trans (tw_grown HT.out.holds hbk nq osq), HS.out.1, fun p h1 h2 => ?_⟩
          exact lex_lt_of HL.out (le_of_sorted HL0.out (by omega) h1 h2)
        case measure => simp [intOf]; omega
      · have HL : Hid (lexT d[m]! d[h]! = false) := by show _ = _; rw [← hcl]; exact decide_eq_false hlv
        have hdv : decide (cv < 0) = false := decide_eq_false hlv
        clear hcl
        go_wp2_with fail
        go_quiet_grown (first | (go_at_fn 33; refine Calls.grown_of (hcg _ _)))
        go_wp2
        go_roundw
        case rel =>
          refine ⟨h + 1, j, by go_num, rfl, by omega, by omega, hjm, HT.out.trans (tw_grown HT.out.holds hbk nq osq), fun p h1 h2 => ?_, HS.out.2⟩
          exact lex_le_trans (le_of_sorted HL0.out h1 (show p ≤ h by omega) (by omega)) HL.out
        case measure => simp [intOf]; omega
    · obtain rfl : i = j := by omega
      have HST2 : Hid (Tw w wr blk d) := HT
      go_wp2
      go_loopw [17] (fun sk wr => ∃ (k : Nat) (dk : Array Tk), sk = .int .i64 (k : Int) ∧ i ≤ k ∧ k ≤ m ∧ Hid (Tw w wr blk dk) ∧ Hid (IsRot d dk k m (m + 1))) (fun sk _ => (intOf sk).toNat)
      case atStart => exact ⟨m, d, rfl, by omega, Nat.le_refl _, HST2, rot_same d m m (m + 1) (Or.inl rfl) (by omega)⟩
      case round =>
        obtain ⟨k, dk, rfl, hik, hkm, HT3, HRt⟩ := hrel
        have hds : dk.size = d.size := HRt.out.size
        have hbk3 : blk < wr.heap.size := HT3.out.lt hblk
        by_cases hlt2 : i < k
        · obtain ⟨kp, rfl⟩ : ∃ kp, k = kp + 1 := ⟨k - 1, by omega⟩
          have hz : (i : Int) < (kp : Int) + 1 := by omega
          obtain ⟨ci, cj, sf⟩ := swap_facts K hK.out wr blk dk (kp + 1) kp HT3.out.holds hbk3 (by omega) (by omega)
          obtain ⟨li2, lj2, s1, s2, hsi, hsj, htw⟩ := sf
          have HTw : Hid _ := htw
          clear htw
          have hwp : IntKind.i64.wrap (kp : Int) = (kp : Int) := by rw [IntKind.wrap_i64]; omega
          have jz : (kp : Int) + 1 < (d.size : Int) := by omega
          have jz1 : (kp : Int) < (d.size : Int) := by omega
          have p0 : (0 : Int) ≤ (kp : Int) + 1 := by omega
          have e0 : ((kp : Int) + 1).toNat = kp + 1 := by omega
          go_wp2_with fail
          go_big_region_o
          all_goals go_wp2
          go_roundw
          case rel => exact ⟨kp, swp dk (kp + 1) kp, by first | rfl | go_num | (congr 1; omega), by omega, by omega, HT3.out.trans HTw.out, rot_pull HRt.out hkm (by omega)⟩
          case measure => simp [intOf]
        · have hz : ¬ (i : Int) < (k : Int) := by omega
          go_wp2
          ((try simp only [Exit.inBlock, Exit.then]); refine bodyPost_ret (results_none rfl _ _ _) rfl ?_)
          obtain rfl : i = k := by omega
          obtain ⟨h1, h2⟩ := merge_right hm.out hai hjm hb HL0.out HS.out.1 HS.out.2 (by rw [hm.out]; exact HRt.out)
          exact ⟨rfl, dk, HT3.out, h1, h2⟩
end Go.Proofs.Ybulkdpsg

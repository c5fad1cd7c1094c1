/- S5830C: slices.symMergeCmpFunc, whole; slices.stableCmpFunc, slices.SortStableFunc. -/
import Derived.Test.YbulkdpsgC9b
import Derived.Test.YbulkdpsgC9s
import Derived.Test.YbulkdpsgC10
namespace Go.Proofs.Ybulkdpsg
open Go Go.RowKit Go.Sort Go.Proofs Go.Lib
set_option linter.unusedVariables false

theorem symIH (blk cap S : Nat) (hS : S ≤ 2048) : ∀ N, SymIH blk cap N S := by
  intro N
  induction N with
  | zero => intro a m b d w _ h; omega
  | succ N ih =>
    intro a m b d w hd hN ham hmb hb hH hblk hL hR hrow
    have ih' : SymIH blk cap (b - a) d.size := fun a' m' b' d' w' h1 h2 => ih a' m' b' d' w' (h1.trans hd) (by omega)
    unfold SymOk
    by_cases h1 : m = a + 1
    · exact sym_left 5 rfl size105 blk cap a m b h1 d w hH hblk hmb hb (by omega) hR hrow
    · by_cases h2 : b = m + 1
      · exact sym_right 5 rfl size105 blk cap a m b h2 (by omega) d w hH hblk hb (by omega) hL hrow
      · by_cases h3 : (a + b) / 2 < m
        · exact sym_gen_big 5 rfl size105 blk cap a m b ((a + b) / 2) ((a + b) / 2 + m - b) ((a + b) / 2) d w ⟨by omega, by omega, rfl, Or.inl ⟨h3, by omega, rfl⟩⟩ h3 ih' hH hblk hb (by omega) hL hR hrow
        · exact sym_gen_small 5 rfl size105 blk cap a m b ((a + b) / 2) a m d w ⟨by omega, by omega, rfl, Or.inr ⟨by omega, rfl, rfl⟩⟩ (by omega) ih' hH hblk hb (by omega) hL hR hrow
theorem symMerge (blk cap a m b : Nat) (d : Array Tk) (w : World) (ham : a < m) (hmb : m < b) (hb : b ≤ d.size) (hsz : d.size ≤ 2048) (hH : HoldsK encT 5 w blk 0 d) (hblk : blk < w.heap.size) (hL : SortedIn lexT a m d) (hR : SortedIn lexT m b d) (hrow : RowsLR a m b d) : SymOk blk cap a m b d w :=
  symIH blk cap d.size hsz (b - a + 1) a m b d w rfl (by omega) ham hmb hb hH hblk hL hR hrow
theorem insertion (blk cap a b : Nat) (d : Array Tk) (w : World) (hH : HoldsK encT 5 w blk 0 d) (hblk : blk < w.heap.size) (hab : a ≤ b) (hb : b ≤ d.size) (hsz : d.size ≤ 2048) (hasc : Asc a b a d) :
    Calls Yba.prog 59 #[.slice (some ⟨blk, 0, none⟩) d.size cap, .int .i64 (a : Int), .int .i64 (b : Int), .func (.func 33) #[] #[]] w fun e w' => e = .returned (.tuple #[]) ∧ ∃ d', Tw w w' blk d' ∧ PermIn a b d d' ∧ SortedIn lexT a b d' :=
  insertion_k 5 rfl size105 blk cap a b d w hH hblk hab hb hsz hasc

set_option maxHeartbeats 8000000 in
set_option maxRecDepth 1000000 in
theorem stable45 (blk cap n : Nat) (d : Array Tk) (w : World) (hn : Hid (d.size = n)) (hH : HoldsK encT 5 w blk 0 d) (hblk : blk < w.heap.size) (hsz : n ≤ 2048) (hasc : Asc 0 n 0 d) :
    Calls Yba.prog 45 #[.slice (some ⟨blk, 0, none⟩) n cap, .int .i64 (n : Int), .func (.func 33) #[] #[]] w fun e w' => e = .returned (.tuple #[]) ∧ ∃ d', Tw w w' blk d' ∧ PermIn 0 n d d' ∧ SortedIn lexT 0 n d' := by
  have HST : Hid (Tw w w blk d) := Tw.refl hH
  have HA : Hid (L1 0 n d) := L1.start hasc
  clear hH hasc
  go_enter Yba.func45, Yba.ntmps45
  go_wp2
  go_loopw [7, 8] (fun va vb wr => ∃ (a b : Nat) (dk : Array Tk), va = .int .i64 (a : Int) ∧ vb = .int .i64 (b : Int) ∧ a ≤ n ∧ b ≤ n + 20 ∧ Hid (b = a + 20 ∧ ∃ i, a = i * 20) ∧ Hid (Tw w wr blk dk) ∧ Hid (PermIn 0 n d dk) ∧ Hid (L1 a n dk)) (fun va _ _ => n + 1 - (intOf va).toNat)
  case atStart => exact ⟨0, 20, d, rfl, rfl, Nat.zero_le _, by omega, ⟨rfl, 0, rfl⟩, HST, permIn_refl _ _ _, HA⟩
  case round =>
    obtain ⟨a, b, dk, rfl, rfl, han, hbn, HB, HT, HP, HL⟩ := hrel
    have hbk : blk < wr.heap.size := HT.out.lt hblk
    have hdk : Hid (dk.size = n) := HP.out.1.trans hn.out
    by_cases hlt : b ≤ n
    · have hlz : (b : Int) ≤ (n : Int) := by omega
      have hins := insertion blk cap a b dk wr HT.out.holds hbk (by have := HB.out.1; omega) (by rw [hdk.out]; omega) (by rw [hdk.out]; omega) (HL.out.asc hlt)
      rw [hdk.out] at hins
      go_wp2_with (first | (go_at_call 59; refine hins.mono ?_; clear hins; rintro e w1 ⟨rfl, d1, ht1, hp1, ho1⟩; have HT1 : Hid (Tw w w1 blk d1) := HT.out.trans ht1; have HP1 : Hid (PermIn a b dk d1 ∧ SortedIn lexT a b d1) := ⟨hp1, ho1⟩; clear ht1 hp1 ho1))
      go_roundw
      case rel =>
        obtain ⟨hb, i, hi⟩ := HB.out
        refine ⟨b, b + 20, d1, rfl, by go_num, hlt, by omega, ⟨rfl, i + 1, by omega⟩, HT1, permIn_trans _ _ _ _ _ HP.out (permIn_mono _ _ _ _ _ _ (Nat.zero_le _) hlt (by rw [hdk.out]; omega) HP1.out.1), HL.out.step hi hb hlt (by rw [hdk.out]; omega) HP1.out.1 HP1.out.2⟩
      case measure => have := HB.out.1; simp [intOf]; omega
    · have hlz : ¬ (b : Int) ≤ (n : Int) := by omega
      have hins := insertion blk cap a n dk wr HT.out.holds hbk han (by rw [hdk.out]; omega) (by rw [hdk.out]; omega) (HL.out.asc (Nat.le_refl _))
      rw [hdk.out] at hins
      have HPP : Hid (∀ d1, PermIn a n dk d1 → PermIn 0 n d d1) := fun d1 hp1 => permIn_trans _ _ _ _ _ HP.out (permIn_mono _ _ _ _ _ _ (Nat.zero_le _) (Nat.le_refl _) (by rw [hdk.out]; omega) hp1)
      have HLL : Hid (∀ d1, PermIn a n dk d1 → SortedIn lexT a n d1 → L2 20 n d1) := fun d1 hp1 ho1 => by
        obtain ⟨hb, i, hi⟩ := HB.out
        exact HL.out.last (b := b) hi (by omega) han (by rw [hdk.out]; omega) hp1 ho1
      go_wp2_with (first | (go_at_call 59; refine hins.mono ?_; clear hins; rintro e w1 ⟨rfl, d1, ht1, hp1, ho1⟩; have HT1 : Hid (Tw w w1 blk d1) := HT.out.trans ht1; have HP1 : Hid (PermIn 0 n d d1) := HPP.out d1 hp1; have HL2 : Hid (L2 20 n d1) := HLL.out d1 hp1 ho1; clear ht1 hp1 ho1))
      clear HB HT HP HL hdk hbk hlz hlt han hbn
      go_loopw [6] (fun vs wr => ∃ (s : Nat) (dk : Array Tk), vs = .int .i64 (s : Int) ∧ 20 ≤ s ∧ s ≤ 4096 ∧ Hid (Tw w wr blk dk) ∧ Hid (PermIn 0 n d dk) ∧ Hid (L2 s n dk)) (fun vs _ => n - (intOf vs).toNat)
      case atStart => exact ⟨20, d1, rfl, by omega, by omega, HT1, HP1, HL2⟩
      case round =>
        clear HT1 HP1 HL2
        obtain ⟨s, dk, rfl, hs1, hs2, HT, HP, HL⟩ := hrel
        by_cases hlt2 : s < n
        · have hz2 : (s : Int) < (n : Int) := by omega
          go_wp2
          go_loopw [7, 8] (fun va vb wr => ∃ (a b : Nat) (dk : Array Tk), va = .int .i64 (a : Int) ∧ vb = .int .i64 (b : Int) ∧ a ≤ n ∧ b ≤ n + 4096 ∧ Hid (b = a + 2 * s ∧ ∃ i, a = i * (2 * s)) ∧ Hid (Tw w wr blk dk) ∧ Hid (PermIn 0 n d dk) ∧ Hid (L3 a s n dk)) (fun va _ _ => n + 1 - (intOf va).toNat)
          case atStart => exact ⟨0, 2 * s, dk, rfl, by go_num, Nat.zero_le _, by omega, ⟨by omega, 0, by omega⟩, HT, HP, L3.start HL.out⟩
          case round =>
            clear HT HP HL
            obtain ⟨a, b, dk, rfl, rfl, han, hbn, HB, HT, HP, HL⟩ := hrel
            have hbk : blk < wr.heap.size := HT.out.lt hblk
            have hdk : Hid (dk.size = n) := HP.out.1.trans hn.out
            obtain ⟨m, hmz, hme⟩ : ∃ m : Nat, (a : Int) + (s : Int) = (m : Int) ∧ Hid (m = a + s) := ⟨a + s, by omega, rfl⟩
            have hmb : m ≤ 8192 := by have := hme.out; omega
            by_cases hlt : b ≤ n
            · have hlz : (b : Int) ≤ (n : Int) := by omega
              obtain ⟨b2, hbz, hb2e⟩ : ∃ b2 : Nat, (b : Int) + 2 * (s : Int) = (b2 : Int) ∧ Hid (b2 = b + 2 * s) := ⟨b + 2 * s, by omega, rfl⟩
              have hb2b : b2 ≤ n + 4096 := by have := hb2e.out; omega
              have hsym : SymOk blk cap a m b dk wr := by
                obtain ⟨hb, i, hi⟩ := HB.out
                have hm := hme.out
                obtain ⟨q1, q2, q3⟩ := HL.out.pre hi hm (by omega) hlt (by omega)
                exact symMerge blk cap a m b dk wr (by omega) (by omega) (by rw [hdk.out]; omega) (by rw [hdk.out]; omega) HT.out.holds hbk q1 q2 q3
              unfold SymOk at hsym
              rw [hdk.out] at hsym
              go_wp2_with (first | (go_at_call 60; refine hsym.mono ?_; clear hsym; rintro e w1 ⟨rfl, d1, ht1, hp1, ho1⟩; have HT1 : Hid (Tw w w1 blk d1) := HT.out.trans ht1; have HP1 : Hid (PermIn a b dk d1 ∧ SortedIn lexT a b d1) := ⟨hp1, ho1⟩; clear ht1 hp1 ho1))
              go_roundw
              case rel =>
                obtain ⟨hb, i, hi⟩ := HB.out
                refine ⟨b, b2, d1, rfl, rfl, hlt, hb2b, ⟨hb2e.out, i + 1, ?_⟩, HT1, permIn_trans _ _ _ _ _ HP.out (permIn_mono _ _ _ _ _ _ (Nat.zero_le _) hlt (by rw [hdk.out]; omega) HP1.out.1), HL.out.step hi hb hlt (by rw [hdk.out]; omega) HP1.out.1 HP1.out.2⟩
                rw [Nat.add_mul, Nat.one_mul, ← hi]; exact hb
              case measure => have := HB.out.1; simp [intOf]; omega
            · have hlz : ¬ (b : Int) ≤ (n : Int) := by omega
              by_cases hmn : m < n
              · have hmnz : (m : Int) < (n : Int) := by omega
                have hsym : SymOk blk cap a m n dk wr := by
                  obtain ⟨hb, i, hi⟩ := HB.out
                  have hm := hme.out
                  obtain ⟨q1, q2, q3⟩ := HL.out.pre hi hm (by omega) (Nat.le_refl _) (by omega)
                  exact symMerge blk cap a m n dk wr (by omega) (by omega) (by rw [hdk.out]; omega) (by rw [hdk.out]; omega) HT.out.holds hbk q1 q2 q3
                unfold SymOk at hsym
                rw [hdk.out] at hsym
                go_wp2_with (first | (go_at_call 60; refine hsym.mono ?_; clear hsym; rintro e w1 ⟨rfl, d1, ht1, hp1, ho1⟩; have HT1 : Hid (Tw w w1 blk d1) := HT.out.trans ht1; have HP1 : Hid (PermIn a n dk d1 ∧ SortedIn lexT a n d1) := ⟨hp1, ho1⟩; clear ht1 hp1 ho1))
                go_roundw
                case rel =>
                  obtain ⟨hb, i, hi⟩ := HB.out
                  exact ⟨2 * s, d1, by go_num, by omega, by omega, HT1, permIn_trans _ _ _ _ _ HP.out (permIn_mono _ _ _ _ _ _ (Nat.zero_le _) (Nat.le_refl _) (by rw [hdk.out]; omega) HP1.out.1), HL.out.last hi (by omega) han (by rw [hdk.out]; omega) HP1.out.1 HP1.out.2⟩
                case measure => simp [intOf]; omega
              · have hmnz : ¬ (m : Int) < (n : Int) := by omega
                go_wp2
                go_roundw
                case rel =>
                  obtain ⟨hb, i, hi⟩ := HB.out
                  have hm := hme.out
                  exact ⟨2 * s, dk, by go_num, by omega, by omega, HT, HP, HL.out.last hi (by omega) han (by rw [hdk.out]; omega) (permIn_refl _ _ _) (HL.out.small hi (by omega) han)⟩
                case measure => simp [intOf]; omega
        · have hz2 : ¬ (s : Int) < (n : Int) := by omega
          go_wp2
          go_end0
          exact ⟨rfl, dk, HT.out, HP.out, HL.out.all (by omega)⟩
theorem sort32 (blk cap n : Nat) (d : Array Tk) (w : World) (hn : d.size = n) (hH : HoldsK encT 5 w blk 0 d) (hblk : blk < w.heap.size) (hsz : n ≤ 2048) (hasc : Asc 0 n 0 d) :
    Calls Yba.prog 32 #[.slice (some ⟨blk, 0, none⟩) n cap, .func (.func 33) #[] #[]] w fun e w' => e = .returned (.tuple #[]) ∧ ∃ d', Tw w w' blk d' ∧ PermIn 0 n d d' ∧ SortedIn lexT 0 n d' := by
  have h := stable45 blk cap n d w hn hH hblk hsz hasc
  clear hH hasc hn
  go_enter Yba.func32, Yba.ntmps32
  go_wp2_with (first | (go_at_call 45; refine h.mono ?_; clear h; rintro e w1 ⟨rfl, h⟩))
  go_end0
  exact ⟨rfl, h⟩
end Go.Proofs.Ybulkdpsg

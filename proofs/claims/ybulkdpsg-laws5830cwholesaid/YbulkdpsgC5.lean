/- S5830C: slices.insertionSortCmpFunc, at rows that ascend. -/
import Derived.Test.YbulkdpsgC4
namespace Go.Proofs.Ybulkdpsg
open Go Go.RowKit Go.Sort Go.Proofs Go.Lib
set_option linter.unusedVariables false

/-- Rows ascend between what lies before i and what lies from i on, and from i on. -/
def Asc (a b i : Nat) (d : Array Tk) : Prop := ∀ p q, a ≤ p → p < q → i ≤ q → q < b → (d[p]!).row < (d[q]!).row
/-- The inner loop: what moves lies at j. -/
structure InI (a b j i : Nat) (d0 d : Array Tk) : Prop where
  ins : Ins lexT a j i d
  perm : PermIn a b d0 d
  mine : ∀ p, a ≤ p → p ≤ i → p ≠ j → (d[p]!).row < (d[j]!).row
  later : ∀ p q, a ≤ p → p ≤ i → i < q → q < b → (d[p]!).row < (d[q]!).row
  past : ∀ p q, i < p → p < q → q < b → (d[p]!).row < (d[q]!).row
theorem InI.start {a b i : Nat} {d0 d : Array Tk} (hs : SortedIn lexT a i d) (hA : Asc a b i d) (hp : PermIn a b d0 d) (hai : a < i) (hib : i < b) : InI a b i i d0 d where
  ins := ⟨fun p q h1 h2 h3 h4 h5 => hs p q h1 h2 (by omega), fun q h1 h2 => by omega⟩
  perm := hp
  mine := fun p h1 h2 h3 => hA p i h1 (by omega) (Nat.le_refl _) hib
  later := fun p q h1 h2 h3 h4 => hA p q h1 (by omega) (by omega) h4
  past := fun p q h1 h2 h3 => hA p q (by omega) h2 (by omega) h3
theorem InI.step {a b j i : Nat} {d0 d : Array Tk} (h : InI a b (j + 1) i d0 d) (hl : lexT d[j + 1]! d[j]! = true) (haj : a ≤ j) (hji : j + 1 ≤ i) (hib : i < b) (hb : b ≤ d.size) : InI a b j i d0 (swp d (j + 1) j) := by
  have g := swp_get d (show j + 1 < d.size by omega) (show j < d.size by omega)
  refine ⟨h.ins.step hl haj (by omega), permIn_trans _ _ _ _ _ h.perm (swp_permIn d a b (j + 1) j (by omega) (by omega) haj (by omega) hb), fun p h1 h2 h3 => ?_, fun p q h1 h2 h3 h4 => ?_, fun p q h1 h2 h3 => ?_⟩
  · rw [g, g, if_neg h3, if_pos rfl]
    split
    · rename_i e; exact h.mine j haj (by omega) (by omega)
    · rename_i e; exact h.mine p h1 h2 e
  · rw [g, g, if_neg (show ¬ q = j by omega), if_neg (show ¬ q = j + 1 by omega)]
    split
    · exact h.later (j + 1) q (by omega) (by omega) h3 h4
    · split
      · exact h.later j q haj (by omega) h3 h4
      · exact h.later p q h1 h2 h3 h4
  · rw [g, g, if_neg (show ¬ q = j by omega), if_neg (show ¬ q = j + 1 by omega), if_neg (show ¬ p = j by omega), if_neg (show ¬ p = j + 1 by omega)]
    exact h.past p q h1 h2 h3
theorem InI.stop {a b j i : Nat} {d0 d : Array Tk} (h : InI a b j i d0 d) (hs : j ≤ a ∨ lexT d[j]! d[j - 1]! = false) : SortedIn lexT a (i + 1) d ∧ Asc a b (i + 1) d := by
  refine ⟨h.ins.stop swo_lex hs, fun p q h1 h2 h3 h4 => ?_⟩
  by_cases hp : p ≤ i
  · exact h.later p q h1 hp (by omega) h4
  · exact h.past p q (by omega) h2 h4

set_option maxHeartbeats 4000000 in
set_option maxRecDepth 1000000 in
theorem insertion_k (K : Nat) (hK : Hid (K = 5)) (zE : ∀ w, (Go.sizeOf 105).run Yba.prog w = .ok K w) (blk cap a b : Nat) (d : Array Tk) (w : World) (hH : HoldsK encT 5 w blk 0 d) (hblk : blk < w.heap.size) (hab : a ≤ b) (hb : b ≤ d.size) (hsz : d.size ≤ 2048) (hasc : Asc a b a d) :
    Calls Yba.prog 59 #[.slice (some ⟨blk, 0, none⟩) d.size cap, .int .i64 (a : Int), .int .i64 (b : Int), .func (.func 33) #[] #[]] w fun e w' => e = .returned (.tuple #[]) ∧ ∃ d', Tw w w' blk d' ∧ PermIn a b d d' ∧ SortedIn lexT a b d' := by
  have mixed := mixedYba
  have aE := agg105
  have e33 := en33
  have HST : Hid (Tw w w blk d) := Tw.refl hH
  have HA : Hid (Asc a b a d) := hasc
  clear hH hasc
  go_enter Yba.func59, Yba.ntmps59
  go_wp2
  go_loopw [8] (fun si wr => ∃ (i : Nat) (dk : Array Tk), si = .int .i64 (i : Int) ∧ a < i ∧ i ≤ b + 1 ∧ Hid (Tw w wr blk dk ∧ SortedIn lexT a i dk ∧ Asc a b i dk ∧ PermIn a b d dk)) (fun si _ => b + 1 - (intOf si).toNat)
  case atStart =>
    refine ⟨a + 1, d, by go_num, by omega, by omega, HST.out, fun p q h1 h2 h3 => by omega, fun p q h1 h2 h3 h4 => HA.out p q h1 h2 (by omega) h4, permIn_refl _ _ _⟩
  case round =>
    obtain ⟨i, dk, rfl, hai, hib, HO⟩ := hrel
    by_cases hlt : i < b
    · have hltz : (i : Int) < (b : Int) := by omega
      go_wp2
      go_loopw [9] (fun sj wr2 => ∃ (j : Nat) (dj : Array Tk), sj = .int .i64 (j : Int) ∧ a ≤ j ∧ j ≤ i ∧ Hid (Tw w wr2 blk dj ∧ InI a b j i d dj)) (fun sj _ => (intOf sj).toNat)
      case atStart =>
        obtain ⟨hT, hS, hA, hP⟩ := HO.out
        exact ⟨i, dk, rfl, by omega, Nat.le_refl _, hT, InI.start hS hA hP hai hlt⟩
      case round =>
        obtain ⟨j, dj, rfl, haj, hji, HI⟩ := hrel
        have hds : dj.size = d.size := HI.out.2.perm.1
        have hbk : blk < wr.heap.size := HI.out.1.lt hblk
        by_cases hja : a < j
        · obtain ⟨jp, rfl⟩ : ∃ jp, j = jp + 1 := ⟨j - 1, by omega⟩
          obtain ⟨cx, cy, cf⟩ := cmp_facts K hK.out wr blk dj (jp + 1) jp HI.out.1.holds hbk (by omega) (by omega)
          have hcl : decide (cfT dj[jp + 1]! dj[jp]! < 0) = lexT dj[jp + 1]! dj[jp]! := cf_lex (HI.out.2.mine jp (by omega) (by omega) (by omega))
          obtain ⟨lj, lp, hcg⟩ := cf
          generalize cfT dj[jp + 1]! dj[jp]! = cv at hcl hcg
          have hwp : IntKind.i64.wrap (jp : Int) = (jp : Int) := by rw [IntKind.wrap_i64]; omega
          have jz : (jp : Int) + 1 < (d.size : Int) := by omega
          have jz1 : (jp : Int) < (d.size : Int) := by omega
          have hjaz' : (a : Int) < (jp : Int) + 1 := by omega
          have p0 : (0 : Int) ≤ (jp : Int) + 1 := by omega
          have e0 : ((jp : Int) + 1).toNat = jp + 1 := by omega
          by_cases hlv : cv < 0
          · have HL : Hid (lexT dj[jp + 1]! dj[jp]! = true) := by show _ = _; rw [← hcl]; exact decide_eq_true hlv
            clear hcl
            go_wp2_with fail
            go_quiet_grown (first | (go_at_fn 33; refine Calls.grown_of (hcg _ _)))
            go_wp2_with fail
            have HI2 : Hid (Tw w (grow (wr.drewN nq) osq) blk dj ∧ InI a b (jp + 1) i d dj) := ⟨HI.out.1.trans (tw_grown HI.out.1.holds hbk nq osq), HI.out.2⟩
            have hbk2 : blk < (grow (wr.drewN nq) osq).heap.size := HI2.out.1.lt hblk
            clear lj lp hcg
            generalize grow (wr.drewN nq) osq = wq at HI2 hbk2 ⊢
            obtain ⟨ci, cj, sf⟩ := swap_facts K hK.out wq blk dj (jp + 1) jp HI2.out.1.holds hbk2 (by omega) (by omega)
            obtain ⟨li2, lj2, s1, s2, hsi, hsj, htw⟩ := sf
            have HT : Hid _ := htw
            clear htw
            go_big_region_o
            all_goals go_wp2
            go_roundw
            case rel => exact ⟨jp, swp dj (jp + 1) jp, by first | rfl | go_num | (congr 1; omega), by omega, by omega, HI2.out.1.trans HT.out, HI2.out.2.step HL.out (by omega) hji hlt (by omega)⟩
            case measure => simp [intOf]
          · have HL : Hid (lexT dj[jp + 1]! dj[jp]! = false) := by show _ = _; rw [← hcl]; exact decide_eq_false hlv
            clear hcl
            go_wp2_with fail
            go_quiet_grown (first | (go_at_fn 33; refine Calls.grown_of (hcg _ _)))
            go_wp2
            go_roundw
            case rel =>
              obtain ⟨h1, h2⟩ := HI.out.2.stop (Or.inr HL.out)
              exact ⟨i + 1, dj, by go_num, by omega, by omega, HI.out.1.trans (tw_grown HI.out.1.holds hbk nq osq), h1, h2, HI.out.2.perm⟩
            case measure => simp [intOf]; omega
        · have hjaz : decide ((j : Int) > (a : Int)) = false := decide_eq_false (by omega)
          have hjaz' : ¬ (a : Int) < (j : Int) := by omega
          go_wp2_with fail
          go_big_region_o
          all_goals go_wp2
          go_roundw
          case rel =>
            obtain ⟨h1, h2⟩ := HI.out.2.stop (Or.inl (by omega))
            exact ⟨i + 1, dj, by go_num, by omega, by omega, HI.out.1.trans (tw_grown HI.out.1.holds hbk 1 #[]), h1, h2, HI.out.2.perm⟩
          case measure => simp [intOf]; omega
    · have hltz : ¬ (i : Int) < (b : Int) := by omega
      go_wp2
      go_end0
      obtain ⟨hT, hS, hA, hP⟩ := HO.out
      exact ⟨rfl, dk, hT, hP, fun p q h1 h2 h3 => hS p q h1 h2 (by omega)⟩
end Go.Proofs.Ybulkdpsg

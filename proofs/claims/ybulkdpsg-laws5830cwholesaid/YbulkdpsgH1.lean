/- S5830C: the law's helpers: zzs5830croom. -/
import Derived.Test.YbulkdpsgD1
import Derived.Deep.OwnRows
namespace Go.Proofs.Ybulkdpsg
open Go Go.RowKit Go.Proofs Go.Lib
set_option linter.unusedVariables false
set_option linter.unusedSimpArgs false

/-- Whom the law takes. -/
def rmB (free : Nat → Nat) (ok : Nat → Bool) (best : Int) (v : Nat) : Int := if 0 < free v ∧ ok v = true ∧ (best < 0 ∨ free best.toNat < free v) then (v : Int) else best
def rmL (free : Nat → Nat) (ok : Nat → Bool) : Nat → Int
  | 0 => -1
  | n + 1 => rmB free ok (rmL free ok n) n
theorem rmL_rng (free : Nat → Nat) (ok : Nat → Bool) : ∀ n, rmL free ok n = -1 ∨ ∃ b : Nat, rmL free ok n = (b : Int) ∧ b < n ∧ 0 < free b ∧ ok b = true
  | 0 => Or.inl rfl
  | n + 1 => by
    show rmB _ _ _ _ = _ ∨ ∃ b : Nat, rmB _ _ _ _ = _ ∧ _
    unfold rmB
    split
    · rename_i h; exact Or.inr ⟨n, rfl, by omega, h.1, h.2.1⟩
    · rcases rmL_rng free ok n with h | ⟨b, h, h2, h3, h4⟩
      · exact Or.inl h
      · exact Or.inr ⟨b, h, by omega, h3, h4⟩
/-- Does v remember k (any, where k < 0)? -/
def okM (mem : Nat → List Int) (k : Int) (v : Nat) : Bool := decide (k < 0 ∨ k ∈ mem v)
set_option maxRecDepth 100000 in
set_option maxHeartbeats 4000000 in
theorem room13 (bf bm nW : Nat) (k : Int) (free : Nat → Nat) (mem : Nat → List Int) (w : World) (hnW : nW ≤ 4) (hml : ∀ v, v < nW → (mem v).length ≤ 100) (cf : ∀ v, v < nW → w.cell? ⟨bf, v, none⟩ = some (.int .i64 (free v : Int))) (cm : ∀ v, v < nW → ∃ ad cap, w.cell? ⟨bm, v, none⟩ = some (.slice ad (mem v).length cap) ∧ Ints w ad (mem v)) :
    Calls Yba.prog 13 #[.slice (some ⟨bf, 0, none⟩) nW nW, .slice (some ⟨bm, 0, none⟩) nW nW, .int .i64 k] w fun e w' => e = .returned (.int .i64 (rmL free (okM mem k) nW)) ∧ ∃ q, w' = w.drewN q := by
  have mixed := mixedYba
  have HCF : Hid (∀ v, v < nW → w.cell? ⟨bf, v, none⟩ = some (.int .i64 (free v : Int))) := cf
  have HCM : Hid (∀ v, v < nW → ∃ ad cap, w.cell? ⟨bm, v, none⟩ = some (.slice ad (mem v).length cap) ∧ ∀ W : World, (∃ q, W = w.drewN q) → ∀ n, Calls Yba.prog 15 #[.slice ad (mem v).length cap, .int .i64 k] (W.drewN n) fun e w' => e = .returned (.bool (decide (k ∈ mem v))) ∧ w' = W.drewN n) := fun v hv => by
    obtain ⟨ad, cap, h1, h2⟩ := cm v hv
    refine ⟨ad, cap, h1, fun W hW n => ?_⟩
    obtain ⟨q, rfl⟩ := hW
    exact (has15 ad cap (mem v) k ((w.drewN q).drewN n) h2 (by have := hml v hv; omega)).mono fun e w' ⟨a, b⟩ => ⟨a, b.symm⟩
  clear cf cm hml
  go_enter Yba.func13, Yba.ntmps13
  go_wp2
  go_loopw [7, 8] (fun vb vj wr => ∃ (v : Nat) (best : Int), vb = .int .i64 best ∧ vj = .int .i64 (v : Int) ∧ v ≤ nW ∧ Hid (∃ q, wr = w.drewN q) ∧ Hid (best = rmL free (okM mem k) v)) (fun _ vj _ => nW - (intOf vj).toNat)
  case atStart => exact ⟨0, -1, rfl, rfl, Nat.zero_le _, ⟨0, rfl⟩, rfl⟩
  case round =>
    obtain ⟨v, best, rfl, rfl, hj, HW, HB⟩ := hrel
    by_cases hlt : v < nW
    · have hcell : ∀ a : Addr, wr.cell? a = w.cell? a := fun a => by obtain ⟨q, e⟩ := HW.out; rw [e]; rfl
      have cfv := (hcell ⟨bf, v, none⟩).trans (HCF.out v hlt)
      obtain ⟨ad, cap, hmv, hcall⟩ := HCM.out v hlt
      have cmv := (hcell ⟨bm, v, none⟩).trans hmv
      have HCL : Hid (∀ n, Calls Yba.prog 15 #[.slice ad (mem v).length cap, .int .i64 k] (wr.drewN n) fun e w' => e = .returned (.bool (decide (k ∈ mem v))) ∧ w' = wr.drewN n) := hcall wr HW.out
      have zv : (v : Int) < (nW : Int) := by omega
      have HST : Hid (rmL free (okM mem k) (v + 1) = rmB free (okM mem k) best v) := by show rmB _ _ _ _ = _; rw [← HB.out]
      have hbr := rmL_rng free (okM mem k) v
      rw [← HB.out] at hbr
      have HWQ : Hid (∀ n, ∃ q, wr.drewN n = w.drewN q) := fun n => by obtain ⟨q, e⟩ := HW.out; exact ⟨q + n, by rw [e, World.drewN_drewN]⟩
      have HBF : Hid (∀ b, b < nW → wr.cell? ⟨bf, b, none⟩ = some (.int .i64 (free b : Int))) := fun b hb => (hcell _).trans (HCF.out b hb)
      clear hcell hmv hcall
      generalize hml : (mem v).length = ml at cmv HCL
      clear hml
      by_cases h1 : free v = 0
      · have HE : Hid (rmB free (okM mem k) best v = best) := by show _ = _; unfold rmB; rw [if_neg]; omega
        have hd1 : decide ((free v : Int) > 0) = false := decide_eq_false (by omega)
        generalize (free v : Int) = x at cfv hd1
        clear h1 hbr
        go_wp2_with fail
        go_quiet (first | (go_at_call 15; refine Calls.quiet_of_same (HCL.out _)))
        go_wp2
        go_roundw
        case rel => exact ⟨v + 1, best, rfl, by go_num, by omega, HWQ.out _, by rw [HST.out]; exact HE.out.symm⟩
        case measure => simp [intOf]; omega
      · have hd1 : decide ((free v : Int) > 0) = true := decide_eq_true (by omega)
        by_cases h2 : k < 0
        · have HOK : Hid (okM mem k v = true) := decide_eq_true (Or.inl h2)
          have hd2 : decide (k < 0) = true := decide_eq_true h2
          clear h2
          rcases hbr with hbr | ⟨b, hbr, hbj, _⟩
          · have HE : Hid (rmB free (okM mem k) best v = (v : Int)) := by show _ = _; unfold rmB; rw [if_pos ⟨by omega, HOK.out, by omega⟩]
            have hd4 : decide (best < 0) = true := decide_eq_true (by omega)
            generalize (free v : Int) = x at cfv hd1
            clear h1
            subst hbr
            go_wp2_with fail
            go_quiet (first | (go_at_call 15; refine Calls.quiet_of_same (HCL.out _)))
            go_wp2
            go_roundw
            case rel => exact ⟨v + 1, (v : Int), rfl, by go_num, by omega, HWQ.out _, by rw [HST.out]; exact HE.out.symm⟩
            case measure => simp [intOf]; omega
          · subst hbr
            have cfb := HBF.out b (by omega)
            have hd4 : decide ((b : Int) < 0) = false := decide_eq_false (by omega)
            have zb : (b : Int) < (nW : Int) := by omega
            by_cases h5 : free b < free v
            · have HE : Hid (rmB free (okM mem k) (b : Int) v = (v : Int)) := by show _ = _; unfold rmB; rw [if_pos ⟨by omega, HOK.out, Or.inr (by simpa using h5)⟩]
              have hd5 : decide ((free v : Int) > (free b : Int)) = true := decide_eq_true (by omega)
              generalize (free v : Int) = x at cfv hd1 hd5
              generalize (free b : Int) = y at cfb hd5
              clear h1 h5
              go_wp2_with fail
              go_quiet (first | (go_at_call 15; refine Calls.quiet_of_same (HCL.out _)))
              go_wp2
              go_roundw
              case rel => exact ⟨v + 1, (v : Int), rfl, by go_num, by omega, HWQ.out _, by rw [HST.out]; exact HE.out.symm⟩
              case measure => simp [intOf]; omega
            · have HE : Hid (rmB free (okM mem k) (b : Int) v = (b : Int)) := by show _ = _; unfold rmB; rw [if_neg]; simp; omega
              have hd5 : decide ((free v : Int) > (free b : Int)) = false := decide_eq_false (by omega)
              generalize (free v : Int) = x at cfv hd1 hd5
              generalize (free b : Int) = y at cfb hd5
              clear h1 h5
              go_wp2_with fail
              go_quiet (first | (go_at_call 15; refine Calls.quiet_of_same (HCL.out _)))
              go_wp2
              go_roundw
              case rel => exact ⟨v + 1, (b : Int), rfl, by go_num, by omega, HWQ.out _, by rw [HST.out]; exact HE.out.symm⟩
              case measure => simp [intOf]; omega
        · have hd2 : decide (k < 0) = false := decide_eq_false h2
          by_cases h3 : k ∈ mem v
          · have HOK : Hid (okM mem k v = true) := decide_eq_true (Or.inr h3)
            rw [show decide (k ∈ mem v) = true from decide_eq_true h3] at HCL
            clear h2 h3
            rcases hbr with hbr | ⟨b, hbr, hbj, _⟩
            · have HE : Hid (rmB free (okM mem k) best v = (v : Int)) := by show _ = _; unfold rmB; rw [if_pos ⟨by omega, HOK.out, by omega⟩]
              have hd4 : decide (best < 0) = true := decide_eq_true (by omega)
              generalize (free v : Int) = x at cfv hd1
              clear h1
              subst hbr
              go_wp2_with fail
              go_quiet (first | (go_at_call 15; refine Calls.quiet_of_same (HCL.out _)))
              go_wp2
              go_roundw
              case rel => exact ⟨v + 1, (v : Int), rfl, by go_num, by omega, HWQ.out _, by rw [HST.out]; exact HE.out.symm⟩
              case measure => simp [intOf]; omega
            · subst hbr
              have cfb := HBF.out b (by omega)
              have hd4 : decide ((b : Int) < 0) = false := decide_eq_false (by omega)
              have zb : (b : Int) < (nW : Int) := by omega
              by_cases h5 : free b < free v
              · have HE : Hid (rmB free (okM mem k) (b : Int) v = (v : Int)) := by show _ = _; unfold rmB; rw [if_pos ⟨by omega, HOK.out, Or.inr (by simpa using h5)⟩]
                have hd5 : decide ((free v : Int) > (free b : Int)) = true := decide_eq_true (by omega)
                generalize (free v : Int) = x at cfv hd1 hd5
                generalize (free b : Int) = y at cfb hd5
                clear h1 h5
                go_wp2_with fail
                go_quiet (first | (go_at_call 15; refine Calls.quiet_of_same (HCL.out _)))
                go_wp2
                go_roundw
                case rel => exact ⟨v + 1, (v : Int), rfl, by go_num, by omega, HWQ.out _, by rw [HST.out]; exact HE.out.symm⟩
                case measure => simp [intOf]; omega
              · have HE : Hid (rmB free (okM mem k) (b : Int) v = (b : Int)) := by show _ = _; unfold rmB; rw [if_neg]; simp; omega
                have hd5 : decide ((free v : Int) > (free b : Int)) = false := decide_eq_false (by omega)
                generalize (free v : Int) = x at cfv hd1 hd5
                generalize (free b : Int) = y at cfb hd5
                clear h1 h5
                go_wp2_with fail
                go_quiet (first | (go_at_call 15; refine Calls.quiet_of_same (HCL.out _)))
                go_wp2
                go_roundw
                case rel => exact ⟨v + 1, (b : Int), rfl, by go_num, by omega, HWQ.out _, by rw [HST.out]; exact HE.out.symm⟩
                case measure => simp [intOf]; omega
          · have HE : Hid (rmB free (okM mem k) best v = best) := by show _ = _; unfold rmB; rw [if_neg]; rintro ⟨_, h, _⟩; have := of_decide_eq_true h; rcases this with h | h; exact h2 h; exact h3 h
            rw [show decide (k ∈ mem v) = false from decide_eq_false h3] at HCL
            generalize (free v : Int) = x at cfv hd1
            clear h1 h2 h3 hbr
            go_wp2_with fail
            go_quiet (first | (go_at_call 15; refine Calls.quiet_of_same (HCL.out _)))
            go_wp2
            go_roundw
            case rel => exact ⟨v + 1, best, rfl, by go_num, by omega, HWQ.out _, by rw [HST.out]; exact HE.out.symm⟩
            case measure => simp [intOf]; omega
    · obtain rfl : v = nW := by omega
      go_wp2
      go_ret
      exact ⟨by rw [HB.out]; rfl, HW.out⟩
end Go.Proofs.Ybulkdpsg

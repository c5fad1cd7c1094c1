/- S5830C: (*workers).roomiest: its closure. -/
import Derived.Test.YbulkdpsgW2
namespace Go.Proofs.Ybulkdpsg
open Go Go.RowKit Go.Proofs Go.Lib
set_option linter.unusedVariables false
set_option linter.unusedSimpArgs false

/-- Is v better than best? -/
def betB (free : Nat → Nat) (best : Int) (v : Nat) : Bool := decide (0 < free v ∧ (best < 0 ∨ free best.toNat < free v ∨ (free v = free best.toNat ∧ (v : Int) < best)))
def updB (free : Nat → Nat) (best : Int) (v : Nat) : Int := if betB free best v then (v : Int) else best
set_option maxRecDepth 100000 in
set_option maxHeartbeats 2000000 in
theorem better104 {own : Nat → Nat} {w : World} {base nW nK sz lm : Nat} {pen : Int} {I : Ids} {S : WSt} (bx bb v : Nat) (best : Int) (hv : v < nW) (hb : best = -1 ∨ (0 ≤ best ∧ best < nW)) (hnW : nW ≤ 4)
    (c0 : w.cell? ⟨I.bw, 0, none⟩ = some (.slice (some ⟨I.bf, 0, none⟩) nW nW)) (HF : Hid (∀ u, u < nW → w.cell? ⟨I.bf, u, none⟩ = some (.int .i64 (S.free u : Int)))) (cx : w.cell? ⟨bx, 0, none⟩ = some (pn I.bw 0)) (cb : w.cell? ⟨bb, 0, none⟩ = some (.int .i64 best)) (fb : w.frozen? ⟨bb, 0, none⟩ = false) :
    Calls Yba.prog 104 #[.int .i64 (v : Int), pn bx 0, pn bb 0] w fun e w' => e = .returned (.tuple #[]) ∧ ∃ q, w' = (w.setCell ⟨bb, 0, none⟩ (.int .i64 (updB S.free best v))).drewN q ∨ (w' = w.drewN q ∧ updB S.free best v = best) := by
  have mixed := mixedYba
  have cv := HF.out v hv
  have zv : (v : Int) < (nW : Int) := by omega
  by_cases h1 : S.free v = 0
  · have hu : updB S.free best v = best := by unfold updB betB; rw [if_neg]; simp [h1]
    rw [hu]
    have hd1 : decide ((S.free v : Int) > 0) = false := decide_eq_false (by omega)
    generalize (S.free v : Int) = fv at cv hd1
    clear hu h1
    go_enter Yba.func104, Yba.ntmps104
    go_wp2_with fail
    go_quiet (fail)
    go_wp2
    go_end0
    exact ⟨rfl, _, Or.inr ⟨rfl, trivial⟩⟩
  · have hd1 : decide ((S.free v : Int) > 0) = true := decide_eq_true (by omega)
    rcases hb with rfl | ⟨hb0, hb1⟩
    · have hu : updB S.free (-1) v = (v : Int) := by unfold updB betB; rw [if_pos]; simp; omega
      rw [hu]
      generalize (S.free v : Int) = fv at cv hd1
      clear hu h1
      go_enter Yba.func104, Yba.ntmps104
      go_wp2_with fail
      go_quiet (fail)
      go_wp2
      go_end0
      exact ⟨rfl, _, Or.inl rfl⟩
    · obtain ⟨b, rfl⟩ := Int.eq_ofNat_of_zero_le hb0
      have hbW : b < nW := by omega
      have cbst := HF.out b hbW
      have hd2 : decide ((b : Int) < 0) = false := decide_eq_false (by omega)
      by_cases h2 : S.free b < S.free v
      · have hu : updB S.free (b : Int) v = (v : Int) := by unfold updB betB; rw [if_pos]; simp; omega
        rw [hu]
        have hd3 : decide ((S.free v : Int) > (S.free b : Int)) = true := decide_eq_true (by omega)
        generalize (S.free v : Int) = fv at cv hd1 hd3
        generalize (S.free b : Int) = fq at cbst hd3
        clear hu h1 h2
        go_enter Yba.func104, Yba.ntmps104
        go_wp2_with fail
        go_quiet (fail)
        go_wp2
        go_end0
        exact ⟨rfl, _, Or.inl rfl⟩
      · have hd3 : decide ((S.free v : Int) > (S.free b : Int)) = false := decide_eq_false (by omega)
        by_cases h3 : S.free v = S.free b
        · have hd4 : ((S.free v : Int) == (S.free b : Int)) = true := by rw [h3]; simp
          by_cases h4 : v < b
          · have hu : updB S.free (b : Int) v = (v : Int) := by unfold updB betB; rw [if_pos]; simp; omega
            rw [hu]
            have hd5 : decide ((v : Int) < (b : Int)) = true := decide_eq_true (by omega)
            have hd6 : decide (v < b) = true := decide_eq_true h4
            generalize (S.free v : Int) = fv at cv hd1 hd3 hd4
            generalize (S.free b : Int) = fq at cbst hd3 hd4
            clear hu h1 h2 h3 h4
            go_enter Yba.func104, Yba.ntmps104
            go_wp2_with fail
            go_quiet (fail)
            go_wp2
            go_end0
            exact ⟨rfl, _, Or.inl rfl⟩
          · have hu : updB S.free (b : Int) v = (b : Int) := by unfold updB betB; rw [if_neg]; simp; omega
            rw [hu]
            have hd5 : decide ((v : Int) < (b : Int)) = false := decide_eq_false (by omega)
            have hd6 : decide (v < b) = false := decide_eq_false h4
            generalize (S.free v : Int) = fv at cv hd1 hd3 hd4
            generalize (S.free b : Int) = fq at cbst hd3 hd4
            clear hu h1 h2 h3 h4
            go_enter Yba.func104, Yba.ntmps104
            go_wp2_with fail
            go_quiet (fail)
            go_wp2
            go_end0
            exact ⟨rfl, _, Or.inr ⟨rfl, trivial⟩⟩
        · have hu : updB S.free (b : Int) v = (b : Int) := by unfold updB betB; rw [if_neg]; simp; omega
          rw [hu]
          have hd4 : ((S.free v : Int) == (S.free b : Int)) = false := beq_false_of_ne (by omega)
          generalize (S.free v : Int) = fv at cv hd1 hd3 hd4
          generalize (S.free b : Int) = fq at cbst hd3 hd4
          clear hu h1 h2 h3
          go_enter Yba.func104, Yba.ntmps104
          go_wp2_with fail
          go_quiet (fail)
          go_wp2
          go_end0
          exact ⟨rfl, _, Or.inr ⟨rfl, trivial⟩⟩
end Go.Proofs.Ybulkdpsg

/- S5830C: newSticky: the walk. -/
import Derived.Test.YbulkdpsgN3
namespace Go.Proofs.Ybulkdpsg
open Go Go.RowKit Go.Sort Go.Proofs Go.Lib
set_option linter.unusedVariables false
set_option linter.unusedSimpArgs false
theorem ruZ_add (j : Nat) (last : Int) : ({ ruZ j last with nJ := (ruZ j last).nJ + 1, wait := setN (ruZ j last).wait (ruZ j last).nJ 0, inf := setN (ruZ j last).inf (ruZ j last).nJ 0, adds := (ruZ j last).adds + 1 } : RuSt) = ruZ (j + 1) last := by
  unfold ruZ
  have : setN (fun _ => 0) j 0 = fun _ => 0 := by funext u; unfold setN; split <;> rfl
  simp [this]
set_option maxRecDepth 100000 in
set_option maxHeartbeats 2000000 in
theorem newSticky24 {own : Nat → Nat} {w : World} {base br bt n bw nJ nK : Nat} {last : Int} {vw vi : Value} (hr : Ru own w base br vw vi (ruZ 0 last)) (hbase : base ≤ w.heap.size) (hJ : 0 < nJ ∧ nJ ≤ 4) (hn : n ≤ 2048) (hK : nK ≤ 5) :
    Calls Yba.prog 24 #[.iface 58 (pn br 0), .int .i64 (nJ : Int), .slice (some ⟨bt, 0, none⟩) n n, pn bw 0] w fun e w' => ∃ own' K, e = .returned (pn K.bs 0) ∧ St own' w' base bt n bw br nJ nK K ⟨fun _ => [], fun _ _ => [], fun _ => false⟩ ∧ (∃ vw' vi', Ru own' w' base br vw' vi' (ruZ nJ last)) ∧ OwnUp w own own' ∧ FrT own (fun x => x = 41 ∨ x = 42 ∨ x = 43) w w' := by
  have mixed := mixedYba
  have aE := agg134
  have zE := size134
  have m1 := mk132 nJ (by omega)
  have m2 := mk72 n (by omega)
  have hmm := @run_makeMap Yba.prog
  have HRU : Hid (Ru own w base br vw vi (ruZ 0 last)) := hr
  clear hr
  go_enter Yba.func24, Yba.ntmps24
  go_upto_region 1 with fail
  go_cut [9] (fun v wx => ∃ K : SId, v = pn K.bs 0 ∧ Hid (SMade w wx br bt n bw nJ K ∧ K.vw = fun _ => .slice none 0 0))
  case first =>
    go_region
    all_goals go_wp2_with fail
    all_goals go_meet
    all_goals
      first
      | exact ⟨⟨w.heap.size + 1 + 1, w.heap.size, w.heap.size + 1, fun _ => 0, fun _ => .slice none 0 0, fun _ _ => .slice none 0 0⟩, rfl, smade (al3 w _ _ _).2.2.1 (al3 w _ _ _).1 (al3 w _ _ _).2.1 ((al3 w _ _ _).2.2.2.1.trans (Fr.drewN _ _ 1)) (by simp; omega) (by simp; omega), rfl⟩
      | exact ⟨⟨w.heap.size + 1 + 1, w.heap.size + 1, w.heap.size, fun _ => 0, fun _ => .slice none 0 0, fun _ _ => .slice none 0 0⟩, rfl, smade (al3 w _ _ _).2.2.1 (al3 w _ _ _).2.1 (al3 w _ _ _).1 ((al3 w _ _ _).2.2.2.1.trans (Fr.drewN _ _ 1)) (by simp; omega) (by simp; omega), rfl⟩
  case rest =>
  obtain ⟨K, rfl, HP⟩ := hcut
  clear m1 m2
  have hc0 : wc.cell? ⟨K.bs, 3, none⟩ = some (.slice (some ⟨K.bj, 0, none⟩) nJ nJ) := HP.out.1.rs.cell (i := 3) (by omega)
  go_wp2_with fail
  clear hc0
  go_loopw [26] (fun iv wr => ∃ j : Nat, iv = .int .i64 (j : Int) ∧ j ≤ nJ ∧ Hid (∃ own' mp, NsL own own' w wr base br bt n bw nJ last K mp j)) (fun iv _ => nJ - (intOf iv).toNat)
  case atStart =>
    obtain ⟨o, h⟩ := NsL.start HP.out.1 HRU.out (fun _ => 0)
    exact ⟨0, rfl, Nat.zero_le _, o, fun _ => 0, h⟩
  case round =>
    obtain ⟨j, rfl, hj, HR⟩ := hrel
    by_cases hlt : j < nJ
    · obtain ⟨own1, mp, hns⟩ := HR.out
      have HNS : Hid (NsL own own1 w wr base br bt n bw nJ last K mp j) := hns
      obtain ⟨vw1, vi1, hru⟩ := hns.ru
      have hadd := addjob93 hru (by have := hns.fr.size; omega) (by show j ≤ 3 ∧ j ≤ 3; omega)
      rw [ruZ_add] at hadd
      have zj : (j : Int) < (nJ : Int) := by omega
      have mda := fun x w => (md_rule x w).2.2.2
      have c93 := cf93
      clear hns hru HR
      go_wp2_with (first | (go_at_call 93; refine hadd.mono ?_; clear hadd; rintro e w1 ⟨⟨rr, rfl⟩, own2, vw2, vi2, hr2, hu2, hf2⟩; have rs1 := hf2.row HNS.out.rs (by rw [HNS.out.o1]; omega); have rj1 := hf2.row HNS.out.rj (by rw [HNS.out.o2]; omega); obtain ⟨Wm, hWm⟩ : ∃ X, w1.alloc (.map #[] 0) = X := ⟨_, rfl⟩; obtain ⟨W2, hW2⟩ : ∃ X, Wm.setCell ⟨K.bj, j * 2 + 1, none⟩ (.map (some w1.heap.size)) = X := ⟨_, rfl⟩; have HS2 : Hid (∃ own', NsL own own' w W2 base br bt n bw nJ last K (setL mp j w1.heap.size) (j + 1)) := HNS.out.step hlt hf2 hu2 ⟨vw2, vi2, hr2⟩ hWm hW2; have c3 : w1.cell? ⟨K.bs, 3, none⟩ = some (.slice (some ⟨K.bj, 0, none⟩) nJ nJ) := rs1.cell (i := 3) (by omega); have fa : Fr [] w1 Wm := (by rw [← hWm]; exact Fr.alloc _ _ _); have cj := rj1.cell (i := j * 2 + 1) (by omega); have fj := rj1.frozen (j * 2 + 1); have rj2 := fa.row rj1 (by simp); have cj2 := rj2.cell (i := j * 2 + 1) (by omega); have fj2 := rj2.frozen (j * 2 + 1); have c32 := fa.cell c3 (by simp); clear hr2 hu2 hf2 rs1 rj1 rj2 fa))
      go_roundw
      case measure => simp [intOf]; omega
      case rel =>
        obtain ⟨o3, h3⟩ := HS2.out
        exact ⟨j + 1, rfl, by omega, o3, _, h3⟩
    · have ej : j = nJ := by omega
      subst ej
      go_wp2
      go_ret
      obtain ⟨own1, mp, hns⟩ := HR.out
      exact ⟨own1, { K with mpj := mp }, rfl, hns.st HP.out.2 hJ.2 hK hn, hns.ru, hns.up, hns.fr⟩
end Go.Proofs.Ybulkdpsg

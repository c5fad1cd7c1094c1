/- S5830C: the law's own dispatch rule: AddJob. -/
import Derived.Test.YbulkdpsgU2
import Derived.Deep.AppendLies
namespace Go.Proofs.Ybulkdpsg
open Go Go.RowKit Go.Proofs Go.Lib
set_option linter.unusedVariables false
set_option linter.unusedSimpArgs false

theorem info3' : (Yba.prog.info? 3).map (fun i => (i.zero, i.size, i.bytes)) = some (some (.int .i64 0), 1, 8) := by kernel_rfl
theorem ints_push (n : Nat) (f : Nat → Nat) (x : Nat) : ints n f ++ [.int .i64 (x : Int)] = ints (n + 1) (setN f n x) := by
  unfold ints
  rw [List.range_succ, List.map_append]
  congr 1
  · refine List.map_congr_left fun j hj => ?_
    have := List.mem_range.1 hj
    simp [setN, show ¬ j = n by omega]
  · simp [setN]
/-- What an append onto an owned slice of integers asks of the world with the new element laid. -/
structure App (w W : World) (base : Nat) (v : Value) (n : Nat) (xs : List Value) (x : Int) : Prop where
  own : W.ownsRow base 3 1 v n xs
  size : W.heap.size = w.heap.size + 1
  news : ∀ j u, [Value.int .i64 x][j]? = some u → W.cell? ((⟨w.heap.size, 0, none⟩ : Addr).add j) = some u
  fr : Fr [] w W
theorem app_of {w : World} {base : Nat} {v : Value} {n : Nat} {xs : List Value} (x : Int) (h : w.ownsRow base 3 1 v n xs) : App w (w.alloc (.cells #[.int .i64 x] 3)) base v n xs x :=
  ⟨h.alloc _, by simp, World.news_of_block (Deep.blk_alloc_new w _), Fr.alloc _ _ _⟩
set_option maxRecDepth 100000 in
set_option maxHeartbeats 2000000 in
theorem addjob93 {own : Nat → Nat} {w : World} {base br : Nat} {vw vi : Value} {R : RuSt} (h : Ru own w base br vw vi R) (hbase : base ≤ w.heap.size) (hn : R.nJ ≤ 3 ∧ R.adds ≤ 3) :
    Calls Yba.prog 93 #[pn br 0] w fun e w' => (∃ r, e = .returned r) ∧ ∃ own' vw' vi', Ru own' w' base br vw' vi' { R with nJ := R.nJ + 1, wait := setN R.wait R.nJ 0, inf := setN R.inf R.nJ 0, adds := R.adds + 1 } ∧ OwnUp w own own' ∧ FrT own (fun x => x = 41 ∨ x = 42 ∨ x = 43) w w' := by
  have HH : Hid (Ru own w base br vw vi R) := h
  obtain ⟨i0, hi, hz0, hz1, hz2⟩ := info_parts info3'
  have c0 : w.cell? ⟨br, 0, none⟩ = some vw := h.row.cell (i := 0) (by omega)
  have c1 : w.cell? ⟨br, 1, none⟩ = some vi := h.row.cell (i := 1) (by omega)
  have c2 : w.cell? ⟨br, 2, none⟩ = some (.int .i64 (R.adds : Int)) := h.row.cell (i := 2) (by omega)
  have f2 := h.row.frozen 2
  have hbr : br < w.heap.size := h.row.lt
  have nwb : ∀ b, vw.ownBlock = some b → b ≠ br := fun b hb e => by have := h.ow_ b hb; rw [e, h.ob] at this; omega
  have nib : ∀ b, vi.ownBlock = some b → b ≠ br := fun b hb e => by have := h.oi_ b hb; rw [e, h.ob] at this; omega
  obtain ⟨W1, hW1⟩ : ∃ X, w.setCell ⟨br, 2, none⟩ (.int .i64 ((R.adds : Int) + 1)) = X := ⟨_, rfl⟩
  have FR1 : Hid (Fr [br] w W1) := by show Fr _ _ _; rw [← hW1]; exact Fr.setCell w _ _ (by simp)
  have RW1 : Hid (W1.rowIs br 60 8 (ruF vw vi { R with adds := R.adds + 1 })) := by
    show W1.rowIs _ _ _ _; rw [← hW1]; exact (h.row.set 2 _).congr (eight (by simp [ruF]) (by simp [ruF]) (by simp [ruF]) (by simp [ruF]) (by simp [ruF]) (by simp [ruF]) (by simp [ruF]) (by simp [ruF]))
  have OW1 : Hid (W1.ownsRow base 3 1 vw R.nJ (ints R.nJ R.wait)) := own_frW h.ow FR1.out (fun b hb => by simp [nwb b hb])
  have OI1 : Hid (W1.ownsRow base 3 1 vi R.nJ (ints R.nJ R.inf)) := own_frW h.oi FR1.out (fun b hb => by simp [nib b hb])
  have hA := app_of 0 OW1.out
  obtain ⟨W1a, hW1a⟩ : ∃ X, W1.alloc (.cells #[.int .i64 0] 3) = X := ⟨_, rfl⟩
  rw [hW1a] at hA
  have HA : Hid (App W1 W1a base vw R.nJ (ints R.nJ R.wait) 0) := hA
  have hs1 : W1.heap.size = w.heap.size := by rw [← hW1]; simp [World.setCell]
  have hs1a : W1a.heap.size = w.heap.size + 1 := by rw [hA.size, hs1]
  have cw1 : W1.cell? ⟨br, 0, none⟩ = some vw := RW1.out.cell (i := 0) (by omega)
  have HN1 : Hid (∀ j u, [Value.int .i64 0][j]? = some u → W1a.cell? ((⟨w.heap.size, 0, none⟩ : Addr).add j) = some u) := by have := hA.news; rw [hs1] at this; exact this
  have HNW : Hid (∀ b, vw.ownBlock = some b → b ≠ br) := nwb
  have HNI : Hid (∀ b, vi.ownBlock = some b → b ≠ br) := nib
  have HSZ : Hid (W1.heap.size = w.heap.size ∧ W1a.heap.size = w.heap.size + 1) := ⟨hs1, hs1a⟩
  clear h hA nwb nib hs1a
  go_enter Yba.func93, Yba.ntmps93
  go_wp2_with (first | (at_builtin; refine wpList_append_lies W1a rfl (.tmp 14) (.tmp 15) 48 rfl base 3 i0 _ 1 8 Yba.underlying48 hi hz0 hz1 hz2 (by rfl) (by decide) vw R.nJ (ints R.nJ R.wait) rfl HA.out.own ⟨w.heap.size, 0, none⟩ 1 1 [.int .i64 0] rfl rfl HN1.out (by intro u hu; simp at hu; subst hu; rfl) (by decide) (by simp [maxLen]; omega) (by omega) (by have := HSZ.out.2; omega) (w.heap.size + 1) HSZ.out.2 ?_))
  intro g cap w2 hown hgrow hat hlt
  have hnA : ∀ b, vw.ownBlock = some b → b ≠ br := HNW.out
  have FR2 : Hid (Fr (vw.ownBlock.toList) W1a w2) := ⟨hgrow.os, hgrow.tape, hgrow.output, hgrow.size, fun k hk hn => hgrow.block k hk (fun e => hn (by simp [← e]))⟩
  have nbr : br ∉ vw.ownBlock.toList := fun hm => by simp at hm; exact hnA br hm rfl
  have RW2 : Hid (w2.rowIs br 60 8 (ruF vw vi { R with adds := R.adds + 1 })) := FR2.out.row (HA.out.fr.row RW1.out (by simp)) nbr
  have d0 : w2.cell? ⟨br, 0, none⟩ = some vw := RW2.out.cell (i := 0) (by omega)
  have e0 := RW2.out.frozen 0
  have OI2 : Hid (w2.ownsRow base 3 1 vi R.nJ (ints R.nJ R.inf)) := own_frW (own_frW OI1.out HA.out.fr (by simp)) FR2.out (fun b hb hm => by
    simp at hm
    have h1 := HH.out.ow_ b hm
    have h2 := HH.out.oi_ b hb
    omega)
  have HG : Hid ((vw.ownBlock = some g ∨ w.heap.size + 1 ≤ g) ∧ g < w2.heap.size ∧ w2.ownsRow base 3 1 (slN g (R.nJ + 1) cap) (R.nJ + 1) (ints R.nJ R.wait ++ [.int .i64 0])) := ⟨by rcases hat with h | h; exact Or.inl h; exact Or.inr (by omega), hlt, hown⟩
  have gbr : g ≠ br := by
    rcases HG.out.1 with h | h
    · exact hnA g h
    · omega
  clear hown hgrow hat hlt hnA nbr
  obtain ⟨W3, hW3⟩ : ∃ X, w2.setCell ⟨br, 0, none⟩ (.slice (some ⟨g, 0, none⟩) (R.nJ + 1) cap) = X := ⟨_, rfl⟩
  have FR3 : Hid (Fr [br] w2 W3) := by show Fr _ _ _; rw [← hW3]; exact Fr.setCell w2 _ _ (by simp)
  have RW3 : Hid (W3.rowIs br 60 8 (ruF (slN g (R.nJ + 1) cap) vi { R with adds := R.adds + 1 })) := by
    show W3.rowIs _ _ _ _; rw [← hW3]; exact (RW2.out.set 0 _).congr (eight (by simp [ruF, slN]) (by simp [ruF]) (by simp [ruF]) (by simp [ruF]) (by simp [ruF]) (by simp [ruF]) (by simp [ruF]) (by simp [ruF]))
  have OW3 : Hid (W3.ownsRow base 3 1 (slN g (R.nJ + 1) cap) (R.nJ + 1) (ints R.nJ R.wait ++ [.int .i64 0])) := own_frW HG.out.2.2 FR3.out (fun b hb => by simp [slN, Value.ownBlock] at hb; subst hb; simp [gbr])
  have OI3 : Hid (W3.ownsRow base 3 1 vi R.nJ (ints R.nJ R.inf)) := own_frW OI2.out FR3.out (fun b hb => by simp; exact fun e => HNI.out b hb e)
  have hA3 := app_of 0 OI3.out
  obtain ⟨W3a, hW3a⟩ : ∃ X, W3.alloc (.cells #[.int .i64 0] 3) = X := ⟨_, rfl⟩
  rw [hW3a] at hA3
  have HA3 : Hid (App W3 W3a base vi R.nJ (ints R.nJ R.inf) 0) := hA3
  have hs3 : W3.heap.size = w2.heap.size := by rw [← hW3]; simp [World.setCell]
  have HN3 : Hid (∀ j u, [Value.int .i64 0][j]? = some u → W3a.cell? ((⟨w2.heap.size, 0, none⟩ : Addr).add j) = some u) := by have := hA3.news; rw [hs3] at this; exact this
  have c13 : W3.cell? ⟨br, 1, none⟩ = some vi := RW3.out.cell (i := 1) (by omega)
  have HSZ3 : Hid (W3a.heap.size = w2.heap.size + 1) := by show _ = _; rw [hA3.size, hs3]
  have HBS : Hid (base ≤ W3a.heap.size) := by
    have h1 := FR2.out.size
    have h2 := HSZ.out.2
    have h3 := HSZ3.out
    show base ≤ W3a.heap.size
    omega
  clear hA3
  go_wp2_with (first | (at_builtin; refine wpList_append_lies W3a rfl (.tmp 23) (.tmp 24) 48 rfl base 3 i0 _ 1 8 Yba.underlying48 hi hz0 hz1 hz2 (by rfl) (by decide) vi R.nJ (ints R.nJ R.inf) rfl HA3.out.own ⟨w2.heap.size, 0, none⟩ 1 1 [.int .i64 0] rfl rfl HN3.out (by intro u hu; simp at hu; subst hu; rfl) (by decide) (by simp [maxLen]; omega) (by omega) HBS.out (w2.heap.size + 1) HSZ3.out ?_))
  intro g2 cap2 w4 hown hgrow hat hlt
  have FR4 : Hid (Fr (vi.ownBlock.toList) W3a w4) := ⟨hgrow.os, hgrow.tape, hgrow.output, hgrow.size, fun k hk hn => hgrow.block k hk (fun e => hn (by simp [← e]))⟩
  have nbr : br ∉ vi.ownBlock.toList := fun hm => by simp at hm; exact HNI.out br hm rfl
  have RW4 : Hid (w4.rowIs br 60 8 (ruF (slN g (R.nJ + 1) cap) vi { R with adds := R.adds + 1 })) := FR4.out.row (HA3.out.fr.row RW3.out (by simp)) nbr
  have d1 : w4.cell? ⟨br, 1, none⟩ = some vi := RW4.out.cell (i := 1) (by omega)
  have k1 := RW4.out.frozen 1
  have d04 : w4.cell? ⟨br, 0, none⟩ = some (.slice (some ⟨g, 0, none⟩) (R.nJ + 1) cap) := RW4.out.cell (i := 0) (by omega)
  have HG2 : Hid ((vi.ownBlock = some g2 ∨ w2.heap.size + 1 ≤ g2) ∧ g2 < w4.heap.size ∧ w4.ownsRow base 3 1 (slN g2 (R.nJ + 1) cap2) (R.nJ + 1) (ints R.nJ R.inf ++ [.int .i64 0])) := ⟨by rcases hat with h | h; exact Or.inl h; exact Or.inr (by omega), hlt, hown⟩
  have g2br : g2 ≠ br := by
    rcases HG2.out.1 with h | h
    · exact HNI.out g2 h
    · have := FR2.out.size; have := HSZ.out.2; omega
  have gvi : Hid (g ∉ vi.ownBlock.toList) := fun hm => by
    simp at hm
    rcases HG.out.1 with h | h
    · have h1 := HH.out.ow_ g h; have h2 := HH.out.oi_ g hm; omega
    · have := (HH.out.oi.lt g hm).2; omega
  have OW4 : Hid (w4.ownsRow base 3 1 (slN g (R.nJ + 1) cap) (R.nJ + 1) (ints R.nJ R.wait ++ [.int .i64 0])) := own_frW (own_frW OW3.out HA3.out.fr (by simp)) FR4.out (fun b hb => by simp [slN, Value.ownBlock] at hb; subst hb; exact gvi.out)
  clear hown hgrow hat hlt nbr
  obtain ⟨W5, hW5⟩ : ∃ X, w4.setCell ⟨br, 1, none⟩ (.slice (some ⟨g2, 0, none⟩) (R.nJ + 1) cap2) = X := ⟨_, rfl⟩
  have d05 : W5.cell? ⟨br, 0, none⟩ = some (.slice (some ⟨g, 0, none⟩) (R.nJ + 1) cap) := by rw [← hW5, World.cell?_setCell_other _ _ _ _ (by simp)]; exact d04
  have HW5 : Hid (w4.setCell ⟨br, 1, none⟩ (.slice (some ⟨g2, 0, none⟩) (R.nJ + 1) cap2) = W5) := hW5
  go_wp2
  go_ret
  refine ⟨⟨_, rfl⟩, ?_⟩
  have h := HH.out
  have hW := HW5.out
  have FR5 : Fr [br] w4 W5 := by rw [← hW]; exact Fr.setCell w4 _ _ (by simp)
  have sz1 := HSZ.out
  have sz2 := FR2.out.size
  have sz3 := HSZ3.out
  have sz4 := FR4.out.size
  have hg := HG.out
  have hg2 := HG2.out
  let own' : Nat → Nat := fun b => if b < w.heap.size then own b else if b = g then 42 else 43
  have hu : OwnUp w own own' := fun b hb => if_pos hb
  have og : own' g = 42 := by
    show (if _ then _ else _) = _
    rcases hg.1 with e | e
    · rw [if_pos ((h.ow.lt g e).2)]; exact h.ow_ g e
    · rw [if_neg (by omega), if_pos rfl]
  have og2 : own' g2 = 43 := by
    show (if _ then _ else _) = _
    rcases hg2.1 with e | e
    · rw [if_pos ((h.oi.lt g2 e).2)]; exact h.oi_ g2 e
    · rw [if_neg (by omega), if_neg (by omega)]
  have keep : ∀ b, b < w.heap.size → b ≠ br → b ∉ vw.ownBlock.toList → b ∉ vi.ownBlock.toList → W5.heap[b]? = w.heap[b]? := fun b hb h1 h2 h3 => by
    rw [FR5.block b (by omega) (by simp [h1]), FR4.out.block b (by omega) h3, HA3.out.fr.block b (by have := HA3.out.size; omega) (by simp), FR3.out.block b (by omega) (by simp [h1]), FR2.out.block b (by omega) h2, HA.out.fr.block b (by omega) (by simp), FR1.out.block b hb (by simp [h1])]
  refine ⟨own', slN g (R.nJ + 1) cap, slN g2 (R.nJ + 1) cap2, ⟨by rw [hu _ h.row.lt]; exact h.ob, fun b hb => by simp [slN, Value.ownBlock] at hb; subst hb; exact og, fun b hb => by simp [slN, Value.ownBlock] at hb; subst hb; exact og2, ?_, ?_, ?_, ?_, ?_, ?_⟩, hu, ?_⟩
  · rw [← hW]
    exact (RW4.out.set 1 _).congr (eight (by simp [ruF]) (by simp [ruF, slN]) (by simp [ruF]) (by simp [ruF]) (by simp [ruF]) (by simp [ruF]) (by simp [ruF]) (by simp [ruF]))
  · have q := own_frW OW4.out FR5 (fun b hb => by simp [slN, Value.ownBlock] at hb; subst hb; simp [gbr])
    have := ints_push R.nJ R.wait 0
    simp at this
    show World.ownsRow _ _ _ _ _ _ (ints (R.nJ + 1) (setN R.wait R.nJ 0))
    rw [← this]; exact q
  · have q := own_frW hg2.2.2 FR5 (fun b hb => by simp [slN, Value.ownBlock] at hb; subst hb; simp [g2br])
    have := ints_push R.nJ R.inf 0
    simp at this
    show World.ownsRow _ _ _ _ _ _ (ints (R.nJ + 1) (setN R.inf R.nJ 0))
    rw [← this]; exact q
  · show R.nJ + 1 ≤ 4; omega
  · have := h.b2; show R.adds + 1 ≤ 4 ∧ _; simp at this ⊢; omega
  · intro u hu'
    show setN R.wait R.nJ 0 u ≤ 3000 ∧ setN R.inf R.nJ 0 u ≤ 3000
    unfold setN
    split
    · exact ⟨by omega, by omega⟩
    · have hu'' : u < R.nJ + 1 := hu'
      exact h.b3 u (by omega)
  · refine ⟨?_, ?_, ?_, by have := FR5.size; have := FR3.out.size; omega, fun b hb hn => keep b hb (fun e => hn (by rw [e]; exact Or.inl h.ob)) (fun hm => by simp at hm; exact hn (Or.inr (Or.inl (h.ow_ b hm)))) (fun hm => by simp at hm; exact hn (Or.inr (Or.inr (h.oi_ b hm))))⟩
    · rw [FR5.os, FR4.out.os, HA3.out.fr.os, FR3.out.os, FR2.out.os, HA.out.fr.os, FR1.out.os]
    · rw [FR5.tape, FR4.out.tape, HA3.out.fr.tape, FR3.out.tape, FR2.out.tape, HA.out.fr.tape, FR1.out.tape]
    · rw [FR5.output, FR4.out.output, HA3.out.fr.output, FR3.out.output, FR2.out.output, HA.out.fr.output, FR1.out.output]
end Go.Proofs.Ybulkdpsg

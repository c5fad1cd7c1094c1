/- S5830C: the law's helpers: zzs5830ctouch. -/
import Derived.Test.YbulkdpsgD8
namespace Go.Proofs.Ybulkdpsg
open Go Go.RowKit Go.Proofs Go.Lib
set_option linter.unusedVariables false
set_option linter.unusedSimpArgs false

def toS (k : Int) (sz : Nat) (out : List Int) (x : Int) : List Int := if x ≠ k ∧ out.length < sz then out ++ [x] else out
def toL (k : Int) (sz : Nat) (l : List Int) : List Int := l.foldl (toS k sz) [k]
theorem toL_take (k : Int) (sz : Nat) (l : List Int) (j : Nat) (hj : j < l.length) : toL k sz (l.take (j + 1)) = toS k sz (toL k sz (l.take j)) l[j] := by
  unfold toL
  rw [List.take_succ_eq_append_getElem hj, List.foldl_append]
  rfl
theorem toL_len (k : Int) (sz : Nat) : ∀ (l : List Int) (o : List Int), 1 ≤ o.length → 1 ≤ (l.foldl (toS k sz) o).length ∧ (l.foldl (toS k sz) o).length ≤ o.length + l.length
  | [], o, h => ⟨h, by simp⟩
  | x :: r, o, h => by
    have h1 : 1 ≤ (toS k sz o x).length ∧ (toS k sz o x).length ≤ o.length + 1 := by unfold toS; split <;> simp <;> omega
    obtain ⟨a, b⟩ := toL_len k sz r (toS k sz o x) h1.1
    exact ⟨a, by simp; omega⟩
def iL (l : List Int) : List Value := l.map fun x => .int .i64 x
theorem info3h : (Yba.prog.info? 3).map (fun i => (i.zero, i.size, i.bytes)) = some (some (.int .i64 0), 1, 8) := by kernel_rfl
theorem touch16_same (ad : Option Addr) (cap : Nat) (l : List Int) (k : Int) (sz : Int) (w : World) (H : Ints w ad l) (hl : l.length ≤ 100) (hk : k ∉ l) (hs : sz ≤ 0) :
    Calls Yba.prog 16 #[.slice ad l.length cap, .int .i64 k, .int .i64 sz] w fun e w' => e = .returned (.slice ad l.length cap) ∧ w = w' := by
  have hh := has15 ad cap l k w H (by omega)
  rw [show decide (k ∈ l) = false from decide_eq_false hk] at hh
  clear H hk
  go_enter Yba.func16, Yba.ntmps16
  go_wp2_with (first | (go_at_call 15; refine hh.mono ?_; clear hh; rintro e w' ⟨rfl, rfl⟩))
  go_ret
  exact ⟨rfl, rfl⟩
set_option maxRecDepth 100000 in
set_option maxHeartbeats 2000000 in
theorem touch16 (ad : Option Addr) (cap : Nat) (l : List Int) (k : Int) (sz : Nat) (w : World) (H : Ints w ad l) (hl : l.length ≤ 100) (hks : k ∈ l ∨ 0 < sz) (hsz : sz ≤ 100) :
    Calls Yba.prog 16 #[.slice ad l.length cap, .int .i64 k, .int .i64 (sz : Int)] w fun e w' => ∃ v, e = .returned v ∧ w'.ownsRow w.heap.size 3 1 v (toL k sz l).length (iL (toL k sz l)) ∧ Fr [] w w' := by
  obtain ⟨i0, hi, hz0, hz1, hz2⟩ := info_parts info3h
  have hh := has15 ad cap l k w H (by omega)
  have HH : Hid (Ints w ad l) := H
  obtain ⟨w1, hmk, hown1, hgr1⟩ := run_make_own (P := Yba.prog) w w.heap.size 48 3 i0 _ 1 Yba.underlying48 hi hz0 hz1 .i64 .i64 (l.length + 1) (by rw [hz2]; omega) (by simp [maxLen]; omega) (Nat.le_refl _)
  have hmk' : (Instr.makeSlice 48 (.int .i64 0) (.int .i64 ((l.length : Int) + 1))).run Yba.prog w = .ok (.slice (some ⟨w.heap.size, 0, none⟩) 0 (l.length + 1)) w1 := by have := hmk; simpa using this
  have FR1 : Hid (Fr [] w w1) := ⟨hgr1.os, hgr1.tape, hgr1.output, hgr1.size, fun b hb _ => hgr1.block b hb (by simp)⟩
  have OW1 : Hid (w1.ownsRow w.heap.size 3 1 (.slice (some ⟨w.heap.size, 0, none⟩) 0 (l.length + 1)) 0 []) := hown1
  obtain ⟨W1, hW1⟩ : ∃ X, w1.alloc (.cells #[.int .i64 k] 3) = X := ⟨_, rfl⟩
  have OWA : Hid (W1.ownsRow w.heap.size 3 1 (.slice (some ⟨w.heap.size, 0, none⟩) 0 (l.length + 1)) 0 []) := by show World.ownsRow _ _ _ _ _ _ _; rw [← hW1]; exact hown1.alloc _
  have FRA : Hid (Fr [] w1 W1) := by show Fr _ _ _; rw [← hW1]; exact Fr.alloc _ _ _
  have HNA : Hid (∀ j u, [Value.int .i64 k][j]? = some u → W1.cell? ((⟨w1.heap.size, 0, none⟩ : Addr).add j) = some u) := World.news_of_block (by rw [← hW1]; exact Deep.blk_alloc_new w1 _)
  have HSA : Hid (W1.heap.size = w1.heap.size + 1) := by show _ = _; rw [← hW1]; simp
  have HSW : Hid (w.heap.size ≤ w1.heap.size) := hgr1.size
  clear hmk H hown1 hgr1
  by_cases hk : k ∈ l
  · rw [show decide (k ∈ l) = true from decide_eq_true hk] at hh
    clear hks hk
    go_enter Yba.func16, Yba.ntmps16
    go_wp2_with (first | (go_at_call 15; refine hh.mono ?_; clear hh; rintro e w' ⟨rfl, rfl⟩) | (at_builtin; refine wpList_append_lies W1 rfl (.tmp 23) (.tmp 25) 48 rfl w.heap.size 3 i0 _ 1 8 Yba.underlying48 hi hz0 hz1 hz2 (by rfl) (by decide) _ 0 [] rfl OWA.out ⟨w1.heap.size, 0, none⟩ 1 1 [.int .i64 k] rfl rfl HNA.out (by intro u hu; simp at hu; subst hu; rfl) (by decide) (by simp [maxLen]) (by omega) (by have := HSA.out; have := HSW.out; omega) (w1.heap.size + 1) HSA.out ?_))
    intro g cap2 w2 hown hgr hat hlt
    have FR2 : Hid (Fr [] w w2) := by
      have f1 := FR1.out.trans FRA.out
      exact ⟨hgr.os.trans f1.os, hgr.tape.trans f1.tape, hgr.output.trans f1.output, Nat.le_trans f1.size hgr.size, fun b hb _ => (hgr.block b (Nat.lt_of_lt_of_le hb f1.size) (by simp [Value.ownBlock]; omega)).trans (f1.block b hb (by simp))⟩
    have OW2 : Hid (w2.ownsRow w.heap.size 3 1 (.slice (some ⟨g, 0, none⟩) 1 cap2) 1 [.int .i64 k]) := hown
    clear hown hgr hat hlt FR1 OW1 OWA FRA HNA HSA HSW hmk' hW1
    go_wp2_with fail
    go_loopw [7, 29] (fun vo iv wr => ∃ (j : Nat) (o : List Int), iv = .int .i64 (j : Int) ∧ j ≤ l.length ∧ o = toL k sz (l.take j) ∧ Hid (wr.ownsRow w.heap.size 3 1 vo o.length (iL o)) ∧ Hid (Fr [] w wr)) (fun _ iv _ => l.length - (intOf iv).toNat)
    case atStart => exact ⟨0, [k], rfl, Nat.zero_le _, rfl, OW2, FR2⟩
    case round =>
      clear OW2 FR2
      obtain ⟨j, o, rfl, hj, ho, HO, HF⟩ := hrel
      have HOE : Hid (o = toL k sz (l.take j)) := ho
      have hol : 1 ≤ o.length ∧ o.length ≤ 101 := by
        have := toL_len k sz (l.take j) [k] (by simp)
        rw [ho]; unfold toL; simp at this ⊢; omega
      clear ho
      obtain ⟨g2, c2, hform, _, _⟩ := HO.out.form (by omega)
      subst hform
      by_cases hlt : j < l.length
      · obtain ⟨b, off, rfl, hb, hc⟩ := HH.out j hlt
        have hcr : wr.cell? ⟨b, off + j, none⟩ = some (.int .i64 l[j]!) := HF.out.cell hc (by simp)
        have HT : Hid (toL k sz (l.take (j + 1)) = toS k sz o l[j]!) := by show _ = _; rw [toL_take k sz l j hlt, HOE.out, getElem!_pos l j hlt]
        have zj : (j : Int) < (l.length : Int) := by omega
        generalize l[j]! = x at hcr HT
        clear hc
        by_cases hx : x = k
        · have HE : Hid (toS k sz o x = o) := by show _ = _; unfold toS; rw [if_neg]; exact fun h => h.1 hx
          have hd1 : (x != k) = false := by simp [hx]
          have HX : Hid (x = k) := hx
          clear hx
          go_wp2
          go_roundw
          case rel => exact ⟨j + 1, o, by go_num, by omega, by rw [HT.out, HE.out], HO, HF⟩
          case measure => simp [intOf]; omega
        · have hd1 : (x != k) = true := by simp [hx]
          by_cases hfull : o.length < sz
          · have HE : Hid (toS k sz o x = o ++ [x]) := by show _ = _; unfold toS; rw [if_pos ⟨hx, hfull⟩]
            have hz : (o.length : Int) < (sz : Int) := by omega
            obtain ⟨W3, hW3⟩ : ∃ X, wr.alloc (.cells #[.int .i64 x] 3) = X := ⟨_, rfl⟩
            have O3 : Hid (W3.ownsRow w.heap.size 3 1 (.slice (some ⟨g2, 0, none⟩) o.length c2) o.length (iL o)) := by show World.ownsRow _ _ _ _ _ _ _; rw [← hW3]; exact HO.out.alloc _
            have F3 : Hid (Fr [] w W3) := by show Fr _ _ _; rw [← hW3]; exact HF.out.trans (Fr.alloc _ _ _)
            have N3 : Hid (∀ j u, [Value.int .i64 x][j]? = some u → W3.cell? ((⟨wr.heap.size, 0, none⟩ : Addr).add j) = some u) := World.news_of_block (by rw [← hW3]; exact Deep.blk_alloc_new wr _)
            have S3 : Hid (W3.heap.size = wr.heap.size + 1) := by show _ = _; rw [← hW3]; simp
            have hbs : Hid (w.heap.size ≤ W3.heap.size) := F3.out.size
            have hgl : Hid (w.heap.size ≤ g2) := (HO.out.lt g2 rfl).1
            clear hx
            go_wp2_with (first | (at_builtin; refine wpList_append_lies W3 rfl (.tmp 42) (.tmp 44) 48 rfl w.heap.size 3 i0 _ 1 8 Yba.underlying48 hi hz0 hz1 hz2 (by rfl) (by decide) _ o.length (iL o) rfl O3.out ⟨wr.heap.size, 0, none⟩ 1 1 [.int .i64 x] rfl rfl N3.out (by intro u hu; simp at hu; subst hu; rfl) (by decide) (by simp [maxLen]; omega) (by omega) hbs.out (wr.heap.size + 1) S3.out ?_))
            intro g3 c3 w3 hown hgr hat hlt2
            have F4 : Hid (Fr [] w w3) := ⟨hgr.os.trans F3.out.os, hgr.tape.trans F3.out.tape, hgr.output.trans F3.out.output, Nat.le_trans F3.out.size hgr.size, fun b hb _ => (hgr.block b (Nat.lt_of_lt_of_le hb F3.out.size) (by have := hgl.out; simp [Value.ownBlock]; omega)).trans (F3.out.block b hb (by simp))⟩
            have O4 : Hid (w3.ownsRow w.heap.size 3 1 (.slice (some ⟨g3, 0, none⟩) (o.length + 1) c3) (o.length + 1) (iL o ++ [.int .i64 x])) := hown
            clear hown hgr hat hlt2
            go_wp2
            go_roundw
            case rel =>
              refine ⟨j + 1, o ++ [x], by go_num, by omega, by rw [HT.out, HE.out], ?_, F4⟩
              have := O4.out
              have e1 : iL (o ++ [x]) = iL o ++ [.int .i64 x] := by simp [iL]
              have e2 : (o ++ [x]).length = o.length + 1 := by simp
              rw [e1, e2]; exact O4
            case measure => simp [intOf]; omega
          · have HE : Hid (toS k sz o x = o) := by show _ = _; unfold toS; rw [if_neg]; exact fun h => hfull h.2
            have hz : ¬ (o.length : Int) < (sz : Int) := by omega
            clear hx
            go_wp2
            go_roundw
            case rel => exact ⟨j + 1, o, by go_num, by omega, by rw [HT.out, HE.out], HO, HF⟩
            case measure => simp [intOf]; omega
      · obtain rfl : j = l.length := by omega
        have HL : Hid (toL k sz l = o) := by show _ = _; rw [HOE.out, List.take_of_length_le (Nat.le_refl _)]
        go_wp2
        go_ret
        refine ⟨_, rfl, ?_, HF.out⟩
        rw [HL.out]
        exact HO.out
  · rw [show decide (k ∈ l) = false from decide_eq_false hk] at hh
    have hs0 : 0 < sz := hks.resolve_left hk
    have hsd : decide ((sz : Int) ≤ 0) = false := decide_eq_false (by omega)
    clear hks hk
    go_enter Yba.func16, Yba.ntmps16
    go_wp2_with (first | (go_at_call 15; refine hh.mono ?_; clear hh; rintro e w' ⟨rfl, rfl⟩) | (at_builtin; refine wpList_append_lies W1 rfl (.tmp 23) (.tmp 25) 48 rfl w.heap.size 3 i0 _ 1 8 Yba.underlying48 hi hz0 hz1 hz2 (by rfl) (by decide) _ 0 [] rfl OWA.out ⟨w1.heap.size, 0, none⟩ 1 1 [.int .i64 k] rfl rfl HNA.out (by intro u hu; simp at hu; subst hu; rfl) (by decide) (by simp [maxLen]) (by omega) (by have := HSA.out; have := HSW.out; omega) (w1.heap.size + 1) HSA.out ?_))
    intro g cap2 w2 hown hgr hat hlt
    have FR2 : Hid (Fr [] w w2) := by
      have f1 := FR1.out.trans FRA.out
      exact ⟨hgr.os.trans f1.os, hgr.tape.trans f1.tape, hgr.output.trans f1.output, Nat.le_trans f1.size hgr.size, fun b hb _ => (hgr.block b (Nat.lt_of_lt_of_le hb f1.size) (by simp [Value.ownBlock]; omega)).trans (f1.block b hb (by simp))⟩
    have OW2 : Hid (w2.ownsRow w.heap.size 3 1 (.slice (some ⟨g, 0, none⟩) 1 cap2) 1 [.int .i64 k]) := hown
    clear hown hgr hat hlt FR1 OW1 OWA FRA HNA HSA HSW hmk' hW1
    go_wp2_with fail
    go_loopw [7, 29] (fun vo iv wr => ∃ (j : Nat) (o : List Int), iv = .int .i64 (j : Int) ∧ j ≤ l.length ∧ o = toL k sz (l.take j) ∧ Hid (wr.ownsRow w.heap.size 3 1 vo o.length (iL o)) ∧ Hid (Fr [] w wr)) (fun _ iv _ => l.length - (intOf iv).toNat)
    case atStart => exact ⟨0, [k], rfl, Nat.zero_le _, rfl, OW2, FR2⟩
    case round =>
      clear OW2 FR2
      obtain ⟨j, o, rfl, hj, ho, HO, HF⟩ := hrel
      have HOE : Hid (o = toL k sz (l.take j)) := ho
      have hol : 1 ≤ o.length ∧ o.length ≤ 101 := by
        have := toL_len k sz (l.take j) [k] (by simp)
        rw [ho]; unfold toL; simp at this ⊢; omega
      clear ho
      obtain ⟨g2, c2, hform, _, _⟩ := HO.out.form (by omega)
      subst hform
      by_cases hlt : j < l.length
      · obtain ⟨b, off, rfl, hb, hc⟩ := HH.out j hlt
        have hcr : wr.cell? ⟨b, off + j, none⟩ = some (.int .i64 l[j]!) := HF.out.cell hc (by simp)
        have HT : Hid (toL k sz (l.take (j + 1)) = toS k sz o l[j]!) := by show _ = _; rw [toL_take k sz l j hlt, HOE.out, getElem!_pos l j hlt]
        have zj : (j : Int) < (l.length : Int) := by omega
        generalize l[j]! = x at hcr HT
        clear hc
        by_cases hx : x = k
        · have HE : Hid (toS k sz o x = o) := by show _ = _; unfold toS; rw [if_neg]; exact fun h => h.1 hx
          have hd1 : (x != k) = false := by simp [hx]
          have HX : Hid (x = k) := hx
          clear hx
          go_wp2
          go_roundw
          case rel => exact ⟨j + 1, o, by go_num, by omega, by rw [HT.out, HE.out], HO, HF⟩
          case measure => simp [intOf]; omega
        · have hd1 : (x != k) = true := by simp [hx]
          by_cases hfull : o.length < sz
          · have HE : Hid (toS k sz o x = o ++ [x]) := by show _ = _; unfold toS; rw [if_pos ⟨hx, hfull⟩]
            have hz : (o.length : Int) < (sz : Int) := by omega
            obtain ⟨W3, hW3⟩ : ∃ X, wr.alloc (.cells #[.int .i64 x] 3) = X := ⟨_, rfl⟩
            have O3 : Hid (W3.ownsRow w.heap.size 3 1 (.slice (some ⟨g2, 0, none⟩) o.length c2) o.length (iL o)) := by show World.ownsRow _ _ _ _ _ _ _; rw [← hW3]; exact HO.out.alloc _
            have F3 : Hid (Fr [] w W3) := by show Fr _ _ _; rw [← hW3]; exact HF.out.trans (Fr.alloc _ _ _)
            have N3 : Hid (∀ j u, [Value.int .i64 x][j]? = some u → W3.cell? ((⟨wr.heap.size, 0, none⟩ : Addr).add j) = some u) := World.news_of_block (by rw [← hW3]; exact Deep.blk_alloc_new wr _)
            have S3 : Hid (W3.heap.size = wr.heap.size + 1) := by show _ = _; rw [← hW3]; simp
            have hbs : Hid (w.heap.size ≤ W3.heap.size) := F3.out.size
            have hgl : Hid (w.heap.size ≤ g2) := (HO.out.lt g2 rfl).1
            clear hx
            go_wp2_with (first | (at_builtin; refine wpList_append_lies W3 rfl (.tmp 42) (.tmp 44) 48 rfl w.heap.size 3 i0 _ 1 8 Yba.underlying48 hi hz0 hz1 hz2 (by rfl) (by decide) _ o.length (iL o) rfl O3.out ⟨wr.heap.size, 0, none⟩ 1 1 [.int .i64 x] rfl rfl N3.out (by intro u hu; simp at hu; subst hu; rfl) (by decide) (by simp [maxLen]; omega) (by omega) hbs.out (wr.heap.size + 1) S3.out ?_))
            intro g3 c3 w3 hown hgr hat hlt2
            have F4 : Hid (Fr [] w w3) := ⟨hgr.os.trans F3.out.os, hgr.tape.trans F3.out.tape, hgr.output.trans F3.out.output, Nat.le_trans F3.out.size hgr.size, fun b hb _ => (hgr.block b (Nat.lt_of_lt_of_le hb F3.out.size) (by have := hgl.out; simp [Value.ownBlock]; omega)).trans (F3.out.block b hb (by simp))⟩
            have O4 : Hid (w3.ownsRow w.heap.size 3 1 (.slice (some ⟨g3, 0, none⟩) (o.length + 1) c3) (o.length + 1) (iL o ++ [.int .i64 x])) := hown
            clear hown hgr hat hlt2
            go_wp2
            go_roundw
            case rel =>
              refine ⟨j + 1, o ++ [x], by go_num, by omega, by rw [HT.out, HE.out], ?_, F4⟩
              have := O4.out
              have e1 : iL (o ++ [x]) = iL o ++ [.int .i64 x] := by simp [iL]
              have e2 : (o ++ [x]).length = o.length + 1 := by simp
              rw [e1, e2]; exact O4
            case measure => simp [intOf]; omega
          · have HE : Hid (toS k sz o x = o) := by show _ = _; unfold toS; rw [if_neg]; exact fun h => hfull h.2
            have hz : ¬ (o.length : Int) < (sz : Int) := by omega
            clear hx
            go_wp2
            go_roundw
            case rel => exact ⟨j + 1, o, by go_num, by omega, by rw [HT.out, HE.out], HO, HF⟩
            case measure => simp [intOf]; omega
      · obtain rfl : j = l.length := by omega
        have HL : Hid (toL k sz l = o) := by show _ = _; rw [HOE.out, List.take_of_length_le (Nat.le_refl _)]
        go_wp2
        go_ret
        refine ⟨_, rfl, ?_, HF.out⟩
        rw [HL.out]
        exact HO.out
end Go.Proofs.Ybulkdpsg

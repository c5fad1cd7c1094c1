/-
  THE PROOF OF 'Rows.LawS5830CWholeSaid'. The frame after the guide's shell for a law ('Below'), seven parameters.
-/
import Derived.Test.YbulkdpsgRows
import Derived.Test.YbulkdpsgZ16
import Derived.WalkKit
import Derived.ProofKit
import Derived.OpenShut
import Derived.ShutString
import Derived.ChangeOld
import Derived.Below
import Derived.Laws.Cover2
import Derived.Deep.Slices
namespace Go.Proofs.Ybulkdpsg.lawS5830CWhole
open Go.ChangeShapes Go.WideShapes Go.ChangeAt Go.RowKit
set_option linter.unusedVariables false

theorem own : ownKnob Yba.prog.godebug = none := by kernel_rfl
theorem laidOut : laidOutB Yba.prog = true := by kernel_rfl
theorem cells52 : Yba.prog.cellsOf 52 = 4 := by kernel_rfl
theorem cells5 : Yba.prog.cellsOf 5 = 1 := by kernel_rfl
theorem cells43 : Yba.prog.cellsOf 43 = 1 := by kernel_rfl

theorem list4 {α : Type} {l : List α} (h : l.length = 4) : ∃ a b c d, l = [a, b, c, d] := by
  match l, h with
  | [a, b, c, d], _ => exact ⟨a, b, c, d, rfl⟩

theorem u8_nat {z : Int} (h : (Lit.int .u8 z).wf = true) : ∃ n : Nat, z = (n : Int) ∧ n < 256 := by
  have := bounds_u8 h
  exact ⟨z.toNat, by omega, by omega⟩
theorem u16_nat {z : Int} (h : (Lit.int .u16 z).wf = true) : ∃ n : Nat, z = (n : Int) ∧ n < 65536 := by
  have := bounds_u16 h
  exact ⟨z.toNat, by omega, by omega⟩

section
variable {H : Type} {enc : TypeId × Value → H} {W : World} {base : Nat} {spare : Nat → Bool} {held : Bool}
set_option maxRecDepth 20000 in
/-- The rows that came in. -/
theorem open_rows {a : Option Addr} {len cap : Nat} {d : DataW H} {p : List MemPlace} (h : DataW.Trod enc Yba.prog W base spare held 42 (.slice a len cap) d p) : ∃ tj td ta tk, Ts W a len tj td ta tk := by
  obtain ⟨fuel, hf⟩ := h
  rcases Deep.open_slice Yba.underlying42 hf with ⟨hcs, _⟩ | ⟨x, l, c, m, n, D, Pl, hcs, _, hl, hm, hmm, _, hall⟩
  · simp [Value.cells] at hcs
    obtain ⟨rfl, rfl, rfl⟩ := hcs
    exact ⟨fun _ => 0, fun _ => 0, fun _ => 0, fun _ => 0, fun k hk => by omega⟩
  · simp [Value.cells] at hcs
    obtain ⟨rfl, rfl, rfl⟩ := hcs
    have hlm : len ≤ m := by rw [hmm]; split <;> omega
    by_cases h0 : len = 0
    · subst h0
      exact ⟨fun _ => 0, fun _ => 0, fun _ => 0, fun _ => 0, fun k hk => by omega⟩
    obtain ⟨b, off, spot⟩ := x
    have hspot : spot = none := by
      obtain ⟨cs', h1, _⟩ := hall 0 (by omega)
      rw [cells52] at h1
      obtain ⟨_, hlen, hcell⟩ := World.cells?_some h1
      obtain ⟨v0, v1, v2, v3, rfl⟩ := list4 hlen
      have k0 := hcell 0 (by omega)
      have : W.cell? ⟨b, off, spot⟩ = some v0 := by simpa [Addr.add] using k0
      simpa using World.cell?_spot this
    subst hspot
    have each : ∀ i, i < len → ∃ q : Nat × Nat × Nat × Nat, ∃ b' off', some (⟨b, off, none⟩ : Addr) = some ⟨b', off', none⟩ ∧ b' < W.heap.size ∧ W.cell? ⟨b', off' + i * 4, none⟩ = some (.int .u8 (q.1 : Int)) ∧ W.cell? ⟨b', off' + i * 4 + 1, none⟩ = some (.int .u16 (q.2.1 : Int)) ∧ W.cell? ⟨b', off' + i * 4 + 2, none⟩ = some (.int .u16 (q.2.2.1 : Int)) ∧ W.cell? ⟨b', off' + i * 4 + 3, none⟩ = some (.int .u8 (q.2.2.2 : Int)) ∧ q.1 < 256 ∧ q.2.1 < 65536 ∧ q.2.2.1 < 65536 ∧ q.2.2.2 < 256 := by
      intro i hi
      obtain ⟨cs', h1, h2⟩ := hall i (by omega)
      rw [cells52] at h1
      obtain ⟨_, hlen, hcell⟩ := World.cells?_some h1
      obtain ⟨xs, k, hk, hxy, _, hxl, hfl⟩ := DataW.trod_struct Yba.underlying52 h2
      obtain ⟨y0, y1, y2, y3, rfl⟩ := list4 (show xs.length = 4 from hxl)
      obtain ⟨v0, v1, v2, v3, rfl⟩ := list4 hlen
      have g0 := hfl 0 _ rfl
      have g1 := hfl 1 _ rfl
      have g2 := hfl 2 _ rfl
      have g3 := hfl 3 _ rfl
      simp [cells5, cells43] at g0 g1 g2 g3
      obtain ⟨z0, e0, _, w0⟩ := DataW.trod_int Yba.underlying5 g0
      obtain ⟨z1, e1, _, w1⟩ := DataW.trod_int Yba.underlying43 g1
      obtain ⟨z2, e2, _, w2⟩ := DataW.trod_int Yba.underlying43 g2
      obtain ⟨z3, e3, _, w3⟩ := DataW.trod_int Yba.underlying5 g3
      simp only [List.cons.injEq, and_true] at e0 e1 e2 e3
      subst e0 e1 e2 e3
      have k0 := hcell 0 (by omega)
      have k1 := hcell 1 (by omega)
      have k2 := hcell 2 (by omega)
      have k3 := hcell 3 (by omega)
      rw [add_plain, add_plain] at k0 k1 k2 k3
      simp only [Nat.add_zero, List.getElem?_cons_zero, List.getElem?_cons_succ] at k0 k1 k2 k3
      have hb : b < W.heap.size := by simpa using World.block_lt_of_cell? W _ k0
      obtain ⟨n0, rfl, l0⟩ := u8_nat w0
      obtain ⟨n1, rfl, l1⟩ := u16_nat w1
      obtain ⟨n2, rfl, l2⟩ := u16_nat w2
      obtain ⟨n3, rfl, l3⟩ := u8_nat w3
      exact ⟨(n0, n1, n2, n3), b, off, rfl, hb, k0, k1, k2, k3, l0, l1, l2, l3⟩
    obtain ⟨q, hq⟩ := Deep.choose_lt each
    exact ⟨fun i => (q i).1, fun i => (q i).2.1, fun i => (q i).2.2.1, fun i => (q i).2.2.2, hq⟩
end

set_option maxRecDepth 20000 in
theorem law_big (ad : Option Addr) (n cap : Nat) (nj place nw slots cache pen : Int) (w : World) (hn : 2048 < n) :
    Calls Yba.prog 4 #[.slice ad n cap, .int .u8 nj, .int .u8 place, .int .u8 nw, .int .u8 slots, .int .u8 cache, .int .u16 pen] w fun e w' => e = .returned (.bool true) ∧ Below w.heap.size w w' := by
  have h1 : (2048 : Int) < (n : Int) := by omega
  go_enter Yba.func4, Yba.ntmps4
  go_wp2
  go_ret
  exact ⟨rfl, Below.refl _ _⟩

theorem walk (ad : Option Addr) (n cap : Nat) (nj place nw slots cache pen : Int) (w : World) (tj td ta tk : Nat → Nat) (T : Ts w ad n tj td ta tk) (w1 : (Lit.int .u8 nj).wf = true) (w2 : (Lit.int .u8 place).wf = true) (w3 : (Lit.int .u8 nw).wf = true) (w4 : (Lit.int .u8 slots).wf = true) (w5 : (Lit.int .u8 cache).wf = true) (w6 : (Lit.int .u16 pen).wf = true) :
    Calls Yba.prog 4 #[.slice ad n cap, .int .u8 nj, .int .u8 place, .int .u8 nw, .int .u8 slots, .int .u8 cache, .int .u16 pen] w fun e w' => e = .returned (.bool true) ∧ Below w.heap.size w w' := by
  obtain ⟨nj, rfl, b1⟩ := u8_nat w1
  obtain ⟨place, rfl, b2⟩ := u8_nat w2
  obtain ⟨nw, rfl, b3⟩ := u8_nat w3
  obtain ⟨slots, rfl, b4⟩ := u8_nat w4
  obtain ⟨cache, rfl, b5⟩ := u8_nat w5
  obtain ⟨pen, rfl, b6⟩ := u16_nat w6
  by_cases hb : 2048 < n
  · exact law_big ad n cap _ _ _ _ _ _ w hb
  · have hX : InpOk ⟨n, 1 + nj % 4, 1 + nw % 4, 1 + slots % 3, cache % 4, pen % 20, decide (place % 3 = 0), fun i => tj i % (1 + nj % 4), fun i => tk i % 5, fun i => td i % 32, fun i => ta i % 64⟩ :=
      ⟨by simp only; omega, by simp only; omega, by simp only; omega, by simp only; omega, by simp only; omega, by simp only; omega, fun i hi => ⟨Nat.mod_lt _ (by omega), by simp only; omega, by simp only; omega, by simp only; omega⟩⟩
    exact law4 hX ad cap nj place nw slots cache pen tj td ta tk w T b1 b2 b3 b4 b5 b6 rfl rfl rfl rfl rfl rfl (fun i hi => ⟨rfl, rfl, rfl, rfl⟩)

/-! ### THE ROW's STEP -/
set_option maxRecDepth 100000 in
theorem lifted (os : Os) (started : os.Started) (H : Type) (enc : TypeId × Value → H) :
    ReturnsInHanded {} Yba.checked os 4 .any (Rows.lawS5830CWholeSpec.pre6 enc Yba.prog Yba.f4 Rows.lawS5830CWholeRow.domain false) (Rows.lawS5830CWholeSpec.post enc Yba.prog Yba.f4 false true false false) := by
  refine returnsInHanded_of_change (C := Yba.checked) own started (by kernel_rfl) Yba.func4
    (ChangeSpec.witness6 (enc := enc) (C := Yba.checked) false ⟨#[], #[.slice none 0 0, .int .u8 0, .int .u8 0, .int .u8 0, .int .u8 0, .int .u8 0, .int .u16 0], []⟩ 8 (by kernel_rfl) (by kernel_rfl) (by kernel_rfl) (by kernel_rfl)) ?_
  intro W base args ds gs before hval0 hW hcnd _
  have hval : ∀ (j : Nat) t v, Yba.f4.params[j]? = some t → args[j]? = some v → Value.okWide Yba.prog W .any base t v := hval0
  have hW' := hW
  obtain ⟨p, q, hA0, hV, rfl, hfz, hnd⟩ := hW
  have hA : DataW.TrodAll enc Yba.prog W 0 (fun _ => true) true Yba.f4.params.toList args.toList ds p := hA0
  rw [Yba.params4] at hA hval
  obtain ⟨v0, vs0, d0, ds0, p0, q0, hargs, rfl, rfl, h0, r0⟩ := trodAll_cons hA
  obtain ⟨v1, vs1, d1, ds1, p1, q1, rfl, rfl, rfl, h1, r1⟩ := trodAll_cons r0
  obtain ⟨v2, vs2, d2, ds2, p2, q2, rfl, rfl, rfl, h2, r2⟩ := trodAll_cons r1
  obtain ⟨v3, vs3, d3, ds3, p3, q3, rfl, rfl, rfl, h3, r3⟩ := trodAll_cons r2
  obtain ⟨v4, vs4, d4, ds4, p4, q4, rfl, rfl, rfl, h4, r4⟩ := trodAll_cons r3
  obtain ⟨v5, vs5, d5, ds5, p5, q5, rfl, rfl, rfl, h5, r5⟩ := trodAll_cons r4
  obtain ⟨v6, vs6, d6, ds6, p6, q6, rfl, rfl, rfl, h6, r6⟩ := trodAll_cons r5
  obtain ⟨rfl, rfl, rfl⟩ := trodAll_nil r6
  obtain rfl : args = #[v0, v1, v2, v3, v4, v5, v6] := by cases args; simp_all
  obtain ⟨rfl, rfl⟩ := trodVars_none hV
  have k0 := h0
  have lt0 : ∀ x ∈ p0, x.block < W.heap.size := by obtain ⟨m, hm⟩ := k0; exact DataW.trod_lt m _ _ _ hm
  obtain ⟨a0, len0, cap0, rfl⟩ := okWide_slice Yba.underlying42 (hval 0 42 v0 rfl rfl)
  obtain ⟨tj, td, ta, tk, hT⟩ := open_rows h0
  obtain ⟨a1, rfl, rfl, rfl, w1⟩ := open_int Yba.underlying5 (hval 1 5 v1 rfl rfl) h1
  obtain ⟨a2, rfl, rfl, rfl, w2⟩ := open_int Yba.underlying5 (hval 2 5 v2 rfl rfl) h2
  obtain ⟨a3, rfl, rfl, rfl, w3⟩ := open_int Yba.underlying5 (hval 3 5 v3 rfl rfl) h3
  obtain ⟨a4, rfl, rfl, rfl, w4⟩ := open_int Yba.underlying5 (hval 4 5 v4 rfl rfl) h4
  obtain ⟨a5, rfl, rfl, rfl, w5⟩ := open_int Yba.underlying5 (hval 5 5 v5 rfl rfl) h5
  obtain ⟨a6, rfl, rfl, rfl, w6⟩ := open_int Yba.underlying43 (hval 6 43 v6 rfl rfl) h6
  clear hA0 hval0
  refine (walk a0 len0 cap0 a1 a2 a3 a4 a5 a6 W tj td ta tk hT w1 w2 w3 w4 w5 w6).mono fun e W' ⟨he, bel⟩ => ?_
  subst he
  exact ⟨_, rfl, _, _, _, [], _, [], hW', trodAll_mk1 (shut_bool Yba.underlying4 _), (trodAll_cons_mk (Below.trod laidOut (by kernel_rfl) (of_decide_eq_true (by kernel_rfl)) k0 bel lt0) (trodAll_cons_mk (shut_int Yba.underlying5 w1) (trodAll_cons_mk (shut_int Yba.underlying5 w2) (trodAll_cons_mk (shut_int Yba.underlying5 w3) (trodAll_cons_mk (shut_int Yba.underlying5 w4) (trodAll_cons_mk (shut_int Yba.underlying5 w5) (trodAll_cons_mk (shut_int Yba.underlying43 w6) trodAll_mk0))))))), rfl, bel.frame _, fun h => by cases h⟩

theorem over : Rows.lawS5830CWholeRow.holds Yba.pinned (OpenSpec.ofChange Rows.lawS5830CWholeSpec) :=
  OpenClaim.holds_of_wide 4 Yba.f4 rfl rfl rfl rfl rfl rfl rfl ⟨rfl, rfl, rfl, rfl, rfl⟩ rfl rfl rfl rfl rfl (by kernel_rfl) Yba.func4 (by kernel_rfl)
    (of_decide_eq_true (by kernel_rfl)) (by unfold Func.isWrapper; first | (rw [if_pos (by decide +kernel)]; kernel_rfl) | (rw [if_neg (by decide +kernel)]; exact ⟨rfl, rfl⟩))
    (fun os started H enc _ => lifted os started H enc)

/-- ████ THE STATEMENT ████ -/
theorem proved : Rows.LawS5830CWholeSaid := over
#print axioms proved
end Go.Proofs.Ybulkdpsg.lawS5830CWhole

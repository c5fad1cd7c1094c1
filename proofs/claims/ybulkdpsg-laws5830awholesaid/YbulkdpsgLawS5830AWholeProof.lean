/-
  THE PROOF OF 'Rows.LawS5830AWholeSaid'. The frame after the guide's shell for a law ('Below'), seven parameters.
-/
import Derived.Test.YbulkdpsgRows
import Derived.Test.YbulkdpsgLawPos
import Derived.Test.YbulkdpsgLawZero
import Derived.WalkKit
import Derived.ProofKit
import Derived.OpenShut
import Derived.ShutString
import Derived.ChangeOld
import Derived.Below
import Derived.Laws.Cover2
import Derived.Deep.Slices
namespace Go.Proofs.Ybulkdpsg.lawS5830AWhole
open Go.ChangeShapes Go.WideShapes Go.ChangeAt Go.RowKit
set_option linter.unusedVariables false

theorem own : ownKnob Yba.prog.godebug = none := by kernel_rfl
theorem laidOut : laidOutB Yba.prog = true := by kernel_rfl
theorem cells30 : Yba.prog.cellsOf 30 = 3 := by kernel_rfl
theorem cells28 : Yba.prog.cellsOf 28 = 1 := by kernel_rfl
theorem cells23 : Yba.prog.cellsOf 23 = 1 := by kernel_rfl
theorem cells21 : Yba.prog.cellsOf 21 = 1 := by kernel_rfl

theorem list3 {α : Type} {l : List α} (h : l.length = 3) : ∃ a b c, l = [a, b, c] := by
  match l, h with
  | [a, b, c], _ => exact ⟨a, b, c, rfl⟩

section
variable {H : Type} {enc : TypeId × Value → H} {W : World} {base : Nat} {spare : Nat → Bool} {held : Bool}
theorem trod_float {P : Program} {t : TypeId} {k : FloatKind} {fuel : Nat} {cs : List Value} {x : DataW H × List MemPlace} (ht : P.underlying t = some (.float k)) (h : DataW.trod enc P W base spare held fuel t cs = some x) : ∃ b, cs = [.float k b] ∧ (Lit.float k b).wf = true := by
  cases fuel with
  | zero => simp [DataW.trod] at h
  | succ n =>
    unfold DataW.trod at h
    rw [ht] at h
    split at h <;> simp_all

set_option maxRecDepth 20000 in
/-- The candidates that came in. -/
theorem open_cands {a : Option Addr} {len cap : Nat} {d : DataW H} {p : List MemPlace} (h : DataW.Trod enc Yba.prog W base spare held 22 (.slice a len cap) d p) : len ≤ maxLen ∧ ∃ ne ls hv, Cs W a len ne ls hv := by
  obtain ⟨fuel, hf⟩ := h
  rcases Deep.open_slice Yba.underlying22 hf with ⟨hcs, _⟩ | ⟨x, l, c, m, n, D, Pl, hcs, _, hl, hm, hmm, _, hall⟩
  · simp [Value.cells] at hcs
    obtain ⟨rfl, rfl, rfl⟩ := hcs
    exact ⟨Nat.zero_le _, fun _ => 0, fun _ => 0, fun _ => 0, fun k hk => by omega⟩
  · simp [Value.cells] at hcs
    obtain ⟨rfl, rfl, rfl⟩ := hcs
    refine ⟨Nat.le_trans hl hm, ?_⟩
    have hlm : len ≤ m := by rw [hmm]; split <;> omega
    by_cases h0 : len = 0
    · subst h0
      exact ⟨fun _ => 0, fun _ => 0, fun _ => 0, fun k hk => by omega⟩
    obtain ⟨b, off, spot⟩ := x
    have hspot : spot = none := by
      obtain ⟨cs', h1, _⟩ := hall 0 (by omega)
      rw [cells30] at h1
      obtain ⟨_, hlen, hcell⟩ := World.cells?_some h1
      obtain ⟨v0, v1, v2, rfl⟩ := list3 hlen
      have k0 := hcell 0 (by omega)
      have : W.cell? ⟨b, off, spot⟩ = some v0 := by simpa [Addr.add] using k0
      simpa using World.cell?_spot this
    subst hspot
    have each : ∀ i, i < len → ∃ q : Nat × Nat × Int, ∃ b' off', some (⟨b, off, none⟩ : Addr) = some ⟨b', off', none⟩ ∧ b' < W.heap.size ∧ W.cell? ⟨b', off' + i * 3, none⟩ = some (.int .u64 (q.1 : Int)) ∧ W.cell? ⟨b', off' + i * 3 + 1, none⟩ = some (.float .f64 q.2.1) ∧ W.cell? ⟨b', off' + i * 3 + 2, none⟩ = some (.int .i32 q.2.2) ∧ q.1 < 18446744073709551616 ∧ q.2.1 < 18446744073709551616 := by
      intro i hi
      obtain ⟨cs', h1, h2⟩ := hall i (by omega)
      rw [cells30] at h1
      obtain ⟨_, hlen, hcell⟩ := World.cells?_some h1
      obtain ⟨xs, k, hk, hxy, _, hxl, hfl⟩ := DataW.trod_struct Yba.underlying30 h2
      obtain ⟨y0, y1, y2, rfl⟩ := list3 (show xs.length = 3 from hxl)
      obtain ⟨v0, v1, v2, rfl⟩ := list3 hlen
      have g0 := hfl 0 _ rfl
      have g1 := hfl 1 _ rfl
      have g2 := hfl 2 _ rfl
      simp [cells28, cells23, cells21] at g0 g1 g2
      obtain ⟨z0, e0, _, w0⟩ := DataW.trod_int Yba.underlying28 g0
      obtain ⟨z1, e1, w1⟩ := trod_float Yba.underlying23 g1
      obtain ⟨z2, e2, _, w2⟩ := DataW.trod_int Yba.underlying21 g2
      simp only [List.cons.injEq, and_true] at e0 e1 e2
      subst e0 e1 e2
      have k0 := hcell 0 (by omega)
      have k1 := hcell 1 (by omega)
      have k2 := hcell 2 (by omega)
      rw [add_plain, add_plain] at k0 k1 k2
      simp only [Nat.add_zero, List.getElem?_cons_zero, List.getElem?_cons_succ] at k0 k1 k2
      have bz0 := bounds_u64 w0
      have hb : b < W.heap.size := by simpa using World.block_lt_of_cell? W _ k0
      refine ⟨(z0.toNat, z1, z2), b, off, rfl, hb, ?_, k1, k2, by simp only; omega, ?_⟩
      · rw [k0]; simp only; rw [Int.toNat_of_nonneg bz0.1]
      · simpa [Lit.wf] using w1
    obtain ⟨q, hq⟩ := Deep.choose_lt each
    exact ⟨fun i => (q i).1, fun i => (q i).2.1, fun i => (q i).2.2, hq⟩
end

set_option maxRecDepth 20000 in
theorem law_big (ad : Option Addr) (n cap : Nat) (inv le : Nat) (sign a b rf : Int) (w : World) (hn : 1048576 < n) :
    Calls Yba.prog 3 #[.slice ad n cap, .float .f64 inv, .float .f64 le, .int .i64 sign, .int .u64 a, .int .u64 b, .int .u64 rf] w fun e w' => e = .returned (.bool true) ∧ Below w.heap.size w w' := by
  have h1 : (1048576 : Int) < (n : Int) := by omega
  go_enter Yba.func3, Yba.ntmps3
  go_wp2
  go_ret
  exact ⟨rfl, Below.refl _ _⟩

theorem float_lt {b : Nat} (h : (Lit.float .f64 b).wf = true) : b < 18446744073709551616 := by simpa [Lit.wf] using h
theorem u64_nat {z : Int} (h : (Lit.int .u64 z).wf = true) : ∃ n : Nat, z = (n : Int) := ⟨z.toNat, by have := bounds_u64 h; omega⟩

theorem walk (ad : Option Addr) (n cap : Nat) (inv le : Nat) (sign a b rf : Int) (w : World) (ne ls : Nat → Nat) (hv : Nat → Int) (C : Cs w ad n ne ls hv) (hi : (Lit.float .f64 inv).wf = true) (hl : (Lit.float .f64 le).wf = true) (wa : (Lit.int .u64 a).wf = true) (wb : (Lit.int .u64 b).wf = true) (wr : (Lit.int .u64 rf).wf = true) :
    Calls Yba.prog 3 #[.slice ad n cap, .float .f64 inv, .float .f64 le, .int .i64 sign, .int .u64 a, .int .u64 b, .int .u64 rf] w fun e w' => e = .returned (.bool true) ∧ Below w.heap.size w w' := by
  obtain ⟨a', rfl⟩ := u64_nat wa
  obtain ⟨b', rfl⟩ := u64_nat wb
  obtain ⟨r', rfl⟩ := u64_nat wr
  by_cases hb : 1048576 < n
  · exact law_big ad n cap inv le sign _ _ _ w hb
  · by_cases h0 : n = 0
    · subst h0
      exact law_zero ad cap inv le sign a' b' r' (Rel.refl (float_lt hi)) (Rel.refl (float_lt hl)) w ne ls hv C
    · exact law_pos ad n cap inv le sign a' b' r' (Rel.refl (float_lt hi)) (Rel.refl (float_lt hl)) w ne ls hv C (by omega) (by omega)

/-! ### THE ROW's STEP -/
set_option maxRecDepth 100000 in
theorem lifted (os : Os) (started : os.Started) (H : Type) (enc : TypeId × Value → H) :
    ReturnsInHanded {} Yba.checked os 3 .any (Rows.lawS5830AWholeSpec.pre6 enc Yba.prog Yba.f3 Rows.lawS5830AWholeRow.domain false) (Rows.lawS5830AWholeSpec.post enc Yba.prog Yba.f3 false true false false) := by
  refine returnsInHanded_of_change (C := Yba.checked) own started (by kernel_rfl) Yba.func3
    (ChangeSpec.witness6 (enc := enc) (C := Yba.checked) false ⟨#[], #[.slice none 0 0, .float .f64 0, .float .f64 0, .int .i64 0, .int .u64 0, .int .u64 0, .int .u64 0], []⟩ 8 (by kernel_rfl) (by kernel_rfl) (by kernel_rfl) (by kernel_rfl)) ?_
  intro W base args ds gs before hval0 hW hcnd _
  have hval : ∀ (j : Nat) t v, Yba.f3.params[j]? = some t → args[j]? = some v → Value.okWide Yba.prog W .any base t v := hval0
  have hW' := hW
  obtain ⟨p, q, hA0, hV, rfl, hfz, hnd⟩ := hW
  have hA : DataW.TrodAll enc Yba.prog W 0 (fun _ => true) true Yba.f3.params.toList args.toList ds p := hA0
  rw [Yba.params3] at hA hval
  obtain ⟨v0, vs0, d0, ds0, p0, q0, hargs, rfl, rfl, h0, r0⟩ := trodAll_cons hA
  obtain ⟨v1, vs1, d1, ds1, p1, q1, rfl, rfl, rfl, h1, r1⟩ := trodAll_cons r0
  obtain ⟨v2, vs2, d2, ds2, p2, q2, rfl, rfl, rfl, h2, r2⟩ := trodAll_cons r1
  obtain ⟨v3, vs3, d3, ds3, p3, q3, rfl, rfl, rfl, h3, r3⟩ := trodAll_cons r2
  obtain ⟨v4, vs4, d4, ds4, p4, q4, rfl, rfl, rfl, h4, r4⟩ := trodAll_cons r3
  obtain ⟨v5, vs5, d5, ds5, p5, q5, rfl, rfl, rfl, h5, r5⟩ := trodAll_cons r4
  obtain ⟨v6, vs6, d6, ds6, p6, q6, rfl, rfl, rfl, h6, r6⟩ := trodAll_cons r5
  obtain ⟨rfl, rfl, rfl⟩ := trodAll_nil r6
  obtain rfl : args = #[v0, v1, v2, v3, v4, v5, v6] := by cases args; simp_all
  obtain ⟨rfl, rfl⟩ := trodVars_none hV
  have k0 := h0
  have lt0 : ∀ x ∈ p0, x.block < W.heap.size := by obtain ⟨m, hm⟩ := k0; exact DataW.trod_lt m _ _ _ hm
  obtain ⟨a0, len0, cap0, rfl⟩ := okWide_slice Yba.underlying22 (hval 0 22 v0 rfl rfl)
  obtain ⟨_, ne, ls, hv, hC⟩ := open_cands h0
  obtain ⟨a1, rfl, rfl, rfl, w1⟩ := open_float Yba.underlying23 (hval 1 23 v1 rfl rfl) h1
  obtain ⟨a2, rfl, rfl, rfl, w2⟩ := open_float Yba.underlying23 (hval 2 23 v2 rfl rfl) h2
  obtain ⟨a3, rfl, rfl, rfl, w3⟩ := open_int Yba.underlying3 (hval 3 3 v3 rfl rfl) h3
  obtain ⟨a4, rfl, rfl, rfl, w4⟩ := open_int Yba.underlying24 (hval 4 24 v4 rfl rfl) h4
  obtain ⟨a5, rfl, rfl, rfl, w5⟩ := open_int Yba.underlying24 (hval 5 24 v5 rfl rfl) h5
  obtain ⟨a6, rfl, rfl, rfl, w6⟩ := open_int Yba.underlying24 (hval 6 24 v6 rfl rfl) h6
  clear hA0 hval0
  refine (walk a0 len0 cap0 a1 a2 a3 a4 a5 a6 W ne ls hv hC w1 w2 w4 w5 w6).mono fun e W' ⟨he, bel⟩ => ?_
  subst he
  exact ⟨_, rfl, _, _, _, [], _, [], hW', trodAll_mk1 (shut_bool Yba.underlying4 _), (trodAll_cons_mk (Below.trod laidOut (by kernel_rfl) (of_decide_eq_true (by kernel_rfl)) k0 bel lt0) (trodAll_cons_mk (shut_float Yba.underlying23 w1) (trodAll_cons_mk (shut_float Yba.underlying23 w2) (trodAll_cons_mk (shut_int Yba.underlying3 w3) (trodAll_cons_mk (shut_int Yba.underlying24 w4) (trodAll_cons_mk (shut_int Yba.underlying24 w5) (trodAll_cons_mk (shut_int Yba.underlying24 w6) trodAll_mk0))))))), rfl, bel.frame _, fun h => by cases h⟩

theorem over : Rows.lawS5830AWholeRow.holds Yba.pinned (OpenSpec.ofChange Rows.lawS5830AWholeSpec) :=
  OpenClaim.holds_of_wide 3 Yba.f3 rfl rfl rfl rfl rfl rfl rfl ⟨rfl, rfl, rfl, rfl, rfl⟩ rfl rfl rfl rfl rfl (by kernel_rfl) Yba.func3 (by kernel_rfl)
    (of_decide_eq_true (by kernel_rfl)) (by unfold Func.isWrapper; first | (rw [if_pos (by decide +kernel)]; kernel_rfl) | (rw [if_neg (by decide +kernel)]; exact ⟨rfl, rfl⟩))
    (fun os started H enc _ => lifted os started H enc)

/-- ████ THE STATEMENT ████ -/
theorem proved : Rows.LawS5830AWholeSaid := over
#print axioms proved
end Go.Proofs.Ybulkdpsg.lawS5830AWhole

/-
  THE PROOF OF 'Rows.LawS5832AWholeSaid'. The frame after the guide's shell for a law ('Below'), four parameters; the struct by value is opened into its eight numbers (open8).
-/
import Derived.Test.YbulkdptiRows
import Derived.Test.YbulkdptiLawA
import Derived.WalkKit
import Derived.ProofKit
import Derived.OpenShut
import Derived.ShutString
import Derived.ChangeOld
import Derived.Below
namespace Go.Proofs.Ybulkdpti.lawS5832AWhole
open Go.ChangeShapes Go.WideShapes Go.ChangeAt Go.RowKit
set_option linter.unusedVariables false

theorem own : ownKnob Yba.prog.godebug = none := by kernel_rfl
theorem laidOut : laidOutB Yba.prog = true := by kernel_rfl
theorem cells23 : Yba.prog.cellsOf 23 = 8 := by kernel_rfl
theorem cells3 : Yba.prog.cellsOf 3 = 1 := by kernel_rfl
theorem array8 {cs : Array Value} (h : cs.size = 8) : ∃ c0 c1 c2 c3 c4 c5 c6 c7, cs = #[c0, c1, c2, c3, c4, c5, c6, c7] := by
  obtain ⟨l⟩ := cs
  match l, h with
  | [c0, c1, c2, c3, c4, c5, c6, c7], _ => exact ⟨c0, c1, c2, c3, c4, c5, c6, c7, rfl⟩
theorem open8 {H : Type} {enc : TypeId × Value → H} {W : World} {r : Reach} {b0 base : Nat} {spare : Nat → Bool} {held : Bool} {v : Value} {d : DataW H} {p : List MemPlace}
    (hv : Value.okWide Yba.prog W r b0 23 v) (h : DataW.Trod enc Yba.prog W base spare held 23 v d p) : ∃ a i p t m q s u : Int, v = .agg #[.int .i64 a, .int .i64 i, .int .i64 p, .int .i64 t, .int .i64 m, .int .i64 q, .int .i64 s, .int .i64 u] := by
  obtain ⟨cs, rfl, hsz⟩ := okWide_struct Yba.underlying23 hv
  obtain ⟨c0, c1, c2, c3, c4, c5, c6, c7, rfl⟩ := array8 (hsz.trans cells23)
  obtain ⟨fuel, hf⟩ := h
  obtain ⟨xs, n, _, _, hl, hlen, hx⟩ := DataW.trod_struct Yba.underlying23 hf
  have h8 : xs.length = 8 := by simpa using hlen
  obtain ⟨a, e0, _, _⟩ := DataW.trod_int (x := xs[0]) (cs := [c0]) Yba.underlying3 (by have := hx 0 _ rfl; simpa [Value.cells, cells3, h8] using this)
  obtain ⟨i, e1, _, _⟩ := DataW.trod_int (x := xs[1]) (cs := [c1]) Yba.underlying3 (by have := hx 1 _ rfl; simpa [Value.cells, cells3, h8] using this)
  obtain ⟨p', e2, _, _⟩ := DataW.trod_int (x := xs[2]) (cs := [c2]) Yba.underlying3 (by have := hx 2 _ rfl; simpa [Value.cells, cells3, h8] using this)
  obtain ⟨t, e3, _, _⟩ := DataW.trod_int (x := xs[3]) (cs := [c3]) Yba.underlying3 (by have := hx 3 _ rfl; simpa [Value.cells, cells3, h8] using this)
  obtain ⟨m, e4, _, _⟩ := DataW.trod_int (x := xs[4]) (cs := [c4]) Yba.underlying3 (by have := hx 4 _ rfl; simpa [Value.cells, cells3, h8] using this)
  obtain ⟨q, e5, _, _⟩ := DataW.trod_int (x := xs[5]) (cs := [c5]) Yba.underlying3 (by have := hx 5 _ rfl; simpa [Value.cells, cells3, h8] using this)
  obtain ⟨s, e6, _, _⟩ := DataW.trod_int (x := xs[6]) (cs := [c6]) Yba.underlying3 (by have := hx 6 _ rfl; simpa [Value.cells, cells3, h8] using this)
  obtain ⟨u, e7, _, _⟩ := DataW.trod_int (x := xs[7]) (cs := [c7]) Yba.underlying3 (by have := hx 7 _ rfl; simpa [Value.cells, cells3, h8] using this)
  simp at e0 e1 e2 e3 e4 e5 e6 e7
  exact ⟨a, i, p', t, m, q, s, u, by rw [e0, e1, e2, e3, e4, e5, e6, e7]⟩

theorem walk (a i p t m q s u kd num ins : Int) (w : World) (w1 : (Lit.int .u8 kd).wf = true) :
    Calls Yba.prog 3 #[.agg #[.int .i64 a, .int .i64 i, .int .i64 p, .int .i64 t, .int .i64 m, .int .i64 q, .int .i64 s, .int .i64 u], .int .u8 kd, .int .i64 num, .int .i64 ins] w fun e w' => e = .returned (.bool true) ∧ Below w.heap.size w w' := by
  have hk := bounds_u8 w1
  by_cases hm : m = 0
  · subst hm
    by_cases hs : s = 0
    · subst hs
      by_cases hq : q = 0
      · subst hq
        by_cases hp : p = 0
        · subst hp
          by_cases hn : num = 0
          · subst hn; exact lawA_z0 _ _ _ _ _ _ _ hk
          · exact lawA_1 _ _ _ _ _ _ _ _ hk hn
        · by_cases ht : t = 0
          · subst ht
            by_cases hn : num = 0
            · subst hn; exact lawA_z1 _ _ _ _ _ _ _ hk hp
            · exact lawA_2 _ _ _ _ _ _ _ _ hk hn hp
          · by_cases hu : u = 0
            · subst hu
              by_cases hn : num = 0
              · subst hn; exact lawA_z2 _ _ _ _ _ _ _ hk hp ht
              · exact lawA_3 _ _ _ _ _ _ _ _ hk hn hp ht
            · exact lawA_deep _ _ _ _ _ _ _ _ _ hk hp ht hu
      · by_cases h8 : (kd % 10 == 8) = true
        · by_cases hn : num = 0
          · subst hn; exact lawA_p2 _ _ _ _ _ _ _ _ _ hk hq h8
          · by_cases hi : ins = 0
            · subst hi; exact lawA_p3 _ _ _ _ _ _ _ _ _ hk hq h8 hn
            · exact lawA_p4 _ _ _ _ _ _ _ _ _ _ hk hq h8 hn hi
        · exact lawA_p1 _ _ _ _ _ _ _ _ _ _ hk hq (by simpa using h8)
    · by_cases hq : q = 0
      · subst hq; exact lawA_p5 _ _ _ _ _ _ _ _ _ _ hk hs
      · exact lawA_p6 _ _ _ _ _ _ _ _ _ _ _ hk hq hs
  · exact lawA_att _ _ _ _ _ _ _ _ _ _ _ _ hk hm

/-! ### THE ROW's STEP -/
set_option maxRecDepth 100000 in
theorem lifted (os : Os) (started : os.Started) (H : Type) (enc : TypeId × Value → H) :
    ReturnsInHanded {} Yba.checked os 3 .any (Rows.lawS5832AWholeSpec.pre6 enc Yba.prog Yba.f3 Rows.lawS5832AWholeRow.domain false) (Rows.lawS5832AWholeSpec.post enc Yba.prog Yba.f3 false true false false) := by
  refine returnsInHanded_of_change (C := Yba.checked) own started (by kernel_rfl) Yba.func3
    (ChangeSpec.witness6 (enc := enc) (C := Yba.checked) false ⟨#[], #[.agg #[.int .i64 0, .int .i64 0, .int .i64 0, .int .i64 0, .int .i64 0, .int .i64 0, .int .i64 0, .int .i64 0], .int .u8 0, .int .i64 0, .int .i64 0], []⟩ 8 (by kernel_rfl) (by kernel_rfl) (by kernel_rfl) (by kernel_rfl)) ?_
  intro W base args ds gs before hval0 hW hcnd _
  have hval : ∀ (j : Nat) t v, Yba.f3.params[j]? = some t → args[j]? = some v → Value.okWide Yba.prog W .any base t v := hval0
  have hW' := hW
  obtain ⟨p, q, hA0, hV, rfl, hfz, hnd⟩ := hW
  have hA : DataW.TrodAll enc Yba.prog W 0 (fun _ => true) true Yba.f3.params.toList args.toList ds p := hA0
  rw [Yba.params3] at hA hval
  obtain ⟨v0, vs0, d0, ds0, p0, q0, hargs, rfl, rfl, h0, r0⟩ := trodAll_cons hA
  obtain ⟨v1, vs1, d1, ds1, p1, q1, rfl, rfl, rfl, h1, r1⟩ := trodAll_cons r0
  obtain ⟨v2, vs2, d2, ds2, p2, q2, rfl, rfl, rfl, h2, r2⟩ := trodAll_cons r1
  obtain ⟨v3, vs3, d3, ds3, p3, q3, rfl, rfl, rfl, h3, r3⟩ := trodAll_cons r2
  obtain ⟨rfl, rfl, rfl⟩ := trodAll_nil r3
  obtain rfl : args = #[v0, v1, v2, v3] := by cases args; simp_all
  obtain ⟨rfl, rfl⟩ := trodVars_none hV
  have k0 := h0
  have lt0 : ∀ x ∈ p0, x.block < W.heap.size := by obtain ⟨m, hm⟩ := k0; exact DataW.trod_lt m _ _ _ hm
  obtain ⟨a, i, pp, t, m, qq, s, u, rfl⟩ := open8 (hval 0 23 v0 rfl rfl) h0
  obtain ⟨a1, rfl, rfl, rfl, w1⟩ := open_int Yba.underlying5 (hval 1 5 v1 rfl rfl) h1
  obtain ⟨a2, rfl, rfl, rfl, w2⟩ := open_int Yba.underlying3 (hval 2 3 v2 rfl rfl) h2
  obtain ⟨a3, rfl, rfl, rfl, w3⟩ := open_int Yba.underlying3 (hval 3 3 v3 rfl rfl) h3
  clear hA0 hval0
  refine (walk a i pp t m qq s u a1 a2 a3 W w1).mono fun e W' ⟨he, bel⟩ => ?_
  subst he
  exact ⟨_, rfl, _, _, _, [], _, [], hW', trodAll_mk1 (shut_bool Yba.underlying4 _), (trodAll_cons_mk (Below.trod laidOut (by kernel_rfl) (of_decide_eq_true (by kernel_rfl)) k0 bel lt0) (trodAll_cons_mk (shut_int Yba.underlying5 w1) (trodAll_cons_mk (shut_int Yba.underlying3 w2) (trodAll_cons_mk (shut_int Yba.underlying3 w3) trodAll_mk0)))), rfl, bel.frame _, fun h => by cases h⟩

theorem over : Rows.lawS5832AWholeRow.holds Yba.pinned (OpenSpec.ofChange Rows.lawS5832AWholeSpec) :=
  OpenClaim.holds_of_wide 3 Yba.f3 rfl rfl rfl rfl rfl rfl rfl ⟨rfl, rfl, rfl, rfl, rfl⟩ rfl rfl rfl rfl rfl (by kernel_rfl) Yba.func3 (by kernel_rfl)
    (of_decide_eq_true (by kernel_rfl)) (by unfold Func.isWrapper; first | (rw [if_pos (by decide +kernel)]; kernel_rfl) | (rw [if_neg (by decide +kernel)]; exact ⟨rfl, rfl⟩))
    (fun os started H enc _ => lifted os started H enc)

/-- ████ THE STATEMENT ████ -/
theorem proved : Rows.LawS5832AWholeSaid := over
#print axioms proved
end Go.Proofs.Ybulkdpti.lawS5832AWhole

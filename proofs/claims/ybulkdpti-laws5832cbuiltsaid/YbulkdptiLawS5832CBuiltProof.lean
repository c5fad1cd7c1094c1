/-
  THE SHELL OF A PROOF OF 'Rows.LawS5832CBuiltSaid' ('example.com/tiaowen/tiaowen.LawS5832CBuilt'), WRITTEN BY PROGRAM (proof-skeleton.mjs, third state) off the guide's own print for that function. Not trusted: Lean checks it.
  THE HOLE IS FILLED; the reach is taken besides. ALL ELSE IS THE GUIDE's OWN WAY (howto/template/XProofs.lean; Derived/Test/ChunkProofs.lean for 'Below') at this function's number and types: leave it.
-/
import Derived.Test.YbulkdptiRows
import Derived.Test.YbulkdptiBuilt
import Derived.WalkKit
import Derived.ProofKit
import Derived.OpenShut
import Derived.ShutString
import Derived.ChangeOld
import Derived.Below
namespace Go.Proofs.Ybulkdpti.lawS5832CBuilt
open Go.ChangeShapes Go.WideShapes Go.ChangeAt Go.RowKit
open Go.ChangeMaps (open_string shut_string)
set_option linter.unusedVariables false

theorem own : ownKnob Yba.prog.godebug = none := by kernel_rfl
theorem laidOut : laidOutB Yba.prog = true := by kernel_rfl

/-- WHAT THE WALK IS TOLD OF A SLICE OF INTEGERS THAT CAME IN: it is nil; or it leads to a row of 'cap' cells, the numbers 'zs' (the first 'len' are its elements, the rest its spare room), each fitting its kind. -/
def IsRow (k : IntKind) (w : World) (a : Option Addr) (len cap : Nat) (zs : List Int) : Prop :=
  (a = none ∧ len = 0 ∧ cap = 0 ∧ zs = []) ∨
  ∃ x, a = some x ∧ len ≤ cap ∧ cap ≤ maxLen ∧ zs.length = cap ∧ (∀ i, i < zs.length → w.cell? (x.add i) = some (.int k (zs.getD i 0))) ∧ ∀ n ∈ zs, (Lit.int k n).wf = true

theorem bytes5 : Yba.prog.bytesOf 5 = 1 := by kernel_rfl
/-! ### STEP 1: THE WALK (YbulkdptiBuilt.lean). The form's own reach is wanted: the two lengths are added. -/
theorem walk (a0 : Option Addr) (len0 cap0 : Nat) (z0 : List Int) (a1 : Int) (a2 : ByteArray) (w : World) (w0 : IsRow .u8 w a0 len0 cap0 z0) (w1 : (Lit.int .u8 a1).wf = true) (r0 : len0 ≤ 140737488351232) (r2 : a2.size ≤ 140737488351232) :
    Calls Yba.prog 5 #[.slice a0 len0 cap0, .int .u8 a1, .string a2] w fun e w' => e = .returned (.bool true) ∧ Below w.heap.size w w' := by
  by_cases hbig : 1048576 < len0 + a2.size
  · exact built_big a0 len0 cap0 a1 a2 w r0 r2 hbig
  · refine built_any a0 len0 cap0 (z0.take len0) a1 a2 w ?_ (bounds_u8 w1) (by omega)
    rcases w0 with ⟨rfl, rfl, rfl, rfl⟩ | ⟨x, rfl, hl, _, hz, hc, hw⟩
    · exact ⟨rfl, fun k hk => by omega⟩
    · refine ⟨by simp; omega, fun k hk => ?_⟩
      have hk' : k < z0.length := by omega
      have g := hc k hk'
      have g0 := hc 0 (by omega)
      have e : (z0.take len0).getD k 0 = z0.getD k 0 := by simp [List.getD, hk]
      have hm : z0.getD k 0 ∈ z0 := by simp [List.getD, hk']
      obtain ⟨b, off, spot⟩ := x
      have hspot : spot = none := by simpa [Addr.add] using World.cell?_spot g0
      subst hspot
      have hb : b < w.heap.size := by simpa [Addr.add] using World.block_lt_of_cell? w _ g0
      rw [e]
      exact ⟨b, off, rfl, hb, by rw [← add_plain]; exact g, (bounds_u8 (hw _ hm)).1, (bounds_u8 (hw _ hm)).2⟩

/-! ### THE ROW's STEP: WRITTEN OUT: LEAVE IT -/
set_option maxRecDepth 100000 in
theorem lifted (os : Os) (started : os.Started) (H : Type) (enc : TypeId × Value → H) :
    ReturnsInHanded {} Yba.checked os 5 .any (Rows.lawS5832CBuiltSpec.pre6 enc Yba.prog Yba.f5 Rows.lawS5832CBuiltRow.domain false) (Rows.lawS5832CBuiltSpec.post enc Yba.prog Yba.f5 false true false false) := by
  refine returnsInHanded_of_change_sized (C := Yba.checked) own started (by kernel_rfl) Yba.func5
    (ChangeSpec.witness6 (enc := enc) (C := Yba.checked) false ⟨#[], #[.slice none 0 0, .int .u8 0, .string ByteArray.empty], []⟩ 8 (by kernel_rfl) (by kernel_rfl) (by kernel_rfl) (by kernel_rfl)) ?_
  intro W base args ds gs before hval0 hW hcnd hsz0 _
  have hsz : (DataW.weightsEach Yba.prog (Yba.f5.params.toList ++ Rows.lawS5832CBuiltSpec.plain.varTypes Yba.prog) (ds ++ gs)).all (· ≤ reachBytes) = true := hsz0
  clear hsz0
  have hval : ∀ (j : Nat) t v, Yba.f5.params[j]? = some t → args[j]? = some v → Value.okWide Yba.prog W .any base t v := hval0
  have hW' := hW
  obtain ⟨p, q, hA0, hV, rfl, hfz, hnd⟩ := hW
  have hA : DataW.TrodAll enc Yba.prog W 0 (fun _ => true) true Yba.f5.params.toList args.toList ds p := hA0
  rw [Yba.params5] at hA hval hsz
  obtain ⟨v0, vs0, d0, ds0, p0, q0, hargs, rfl, rfl, h0, r0⟩ := trodAll_cons hA
  obtain ⟨v1, vs1, d1, ds1, p1, q1, rfl, rfl, rfl, h1, r1⟩ := trodAll_cons r0
  obtain ⟨v2, vs2, d2, ds2, p2, q2, rfl, rfl, rfl, h2, r2⟩ := trodAll_cons r1
  obtain ⟨rfl, rfl, rfl⟩ := trodAll_nil r2
  obtain rfl : args = #[v0, v1, v2] := by cases args; simp_all
  obtain ⟨rfl, rfl⟩ := trodVars_none hV
  obtain ⟨a0, len0, cap0, rfl⟩ := okWide_slice Yba.underlying35 (hval 0 35 v0 rfl rfl)
  have k0 := h0
  have lt0 : ∀ x ∈ p0, x.block < W.heap.size := by obtain ⟨m, hm⟩ := k0; exact DataW.trod_lt m _ _ _ hm
  obtain ⟨z0, w0, hd0⟩ : ∃ zs, IsRow .u8 W a0 len0 cap0 zs ∧ (d0 = .nil ∨ d0 = .slice (lits .u8 (zs.take len0)) (lits .u8 (zs.drop len0))) := by
    obtain ⟨fuel, hf⟩ := h0
    rcases open_ints Yba.underlying35 Yba.underlying5 (by kernel_rfl) hf with ⟨hcs, hx⟩ | ⟨x, l, c, zs, hcs, _, hl, hm, hz, hx, hcell, hwz⟩
    · simp [Value.cells] at hcs
      obtain ⟨rfl, rfl, rfl⟩ := hcs
      exact ⟨[], .inl ⟨rfl, rfl, rfl, rfl⟩, .inl (congrArg Prod.fst hx)⟩
    · simp [Value.cells] at hcs
      obtain ⟨rfl, rfl, rfl⟩ := hcs
      exact ⟨zs, .inr ⟨_, rfl, hl, hm, by simpa using hz, hcell, hwz⟩, .inr (congrArg Prod.fst hx)⟩
  have reach0 : len0 ≤ 140737488351232 := by
    rcases w0 with ⟨_, h, _, _⟩ | ⟨x, hx, hl, _, hz, _, _⟩
    · omega
    · rcases hd0 with h | h
      · subst hx
        obtain ⟨fuel, hf⟩ := h0
        rcases open_ints Yba.underlying35 Yba.underlying5 (by kernel_rfl) hf with ⟨hcs, _⟩ | ⟨_, _, _, _, _, _, _, _, _, hx, _, _⟩
        · simp [Value.cells] at hcs
        · have := congrArg Prod.fst hx
          rw [h] at this
          cases this
      · have := sized_slice hsz (j := 0) (t := 35) (e := 5) rfl (by rw [h]; rfl) Yba.underlying35
        rw [bytes5] at this
        simp only [lits, List.length_map, List.length_take, List.length_drop, reachBytes] at this
        omega
  obtain ⟨a1, rfl, rfl, rfl, w1⟩ := open_int Yba.underlying5 (hval 1 5 v1 rfl rfl) h1
  obtain ⟨a2, rfl, rfl, rfl, w2⟩ := open_string Yba.underlying9 (hval 2 9 v2 rfl rfl) h2
  have reach2 : a2.size ≤ 140737488351232 := by
    have := sized_string hsz (j := 2) (t := 9) (bytes := a2.data.toList) rfl rfl
    simpa [reachBytes] using this
  clear hA0 hval0
  refine (walk a0 len0 cap0 z0 a1 a2 W w0 w1 reach0 reach2).mono fun e W' ⟨he, bel⟩ => ?_
  subst he
  exact ⟨_, rfl, _, _, _, [], _, [], hW', trodAll_mk1 (shut_bool Yba.underlying4 _), (trodAll_cons_mk (Below.trod laidOut (by kernel_rfl) (of_decide_eq_true (by kernel_rfl)) k0 bel lt0) (trodAll_cons_mk (shut_int Yba.underlying5 w1) (trodAll_cons_mk (shut_string Yba.underlying9 w2) trodAll_mk0))), rfl, bel.frame _, fun h => by cases h⟩

theorem over : Rows.lawS5832CBuiltRow.holds Yba.pinned (OpenSpec.ofChange Rows.lawS5832CBuiltSpec) :=
  OpenClaim.holds_of_wide 5 Yba.f5 rfl rfl rfl rfl rfl rfl rfl ⟨rfl, rfl, rfl, rfl, rfl⟩ rfl rfl rfl rfl rfl (by kernel_rfl) Yba.func5 (by kernel_rfl)
    (of_decide_eq_true (by kernel_rfl)) (by unfold Func.isWrapper; first | (rw [if_pos (by decide +kernel)]; kernel_rfl) | (rw [if_neg (by decide +kernel)]; exact ⟨rfl, rfl⟩))
    (fun os started H enc _ => lifted os started H enc)

/-- ████ THE STATEMENT ████ -/
theorem proved : Rows.LawS5832CBuiltSaid := over
#print axioms proved
end Go.Proofs.Ybulkdpti.lawS5832CBuilt

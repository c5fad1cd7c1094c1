/-
  THE SHELL OF A PROOF OF 'Rows.LawS5832CWholeSaid' ('example.com/tiaowen/tiaowen.LawS5832CWhole'), WRITTEN BY PROGRAM (proof-skeleton.mjs) off the guide's own print for that function. Not trusted: Lean checks it.
  THE HOLES ARE FILLED. ALL ELSE IS THE GUIDE's TEMPLATE (howto/template/XProofs.lean) at this function's number and types: leave it.
-/
import Derived.Test.YbulkdptiRows
import Derived.Test.YbulkdptiDigits
import Derived.WalkKit
import Derived.ProofKit
import Derived.OpenShut
import Derived.ShutString
namespace Go.Proofs.Ybulkdpti.lawS5832CWhole
open Go.ChangeShapes Go.WideShapes Go.ChangeAt Go.RowKit
open Go.ChangeMaps (open_string shut_string)
set_option linter.unusedVariables false      -- a walk need not use every 'w<i>' (that an integer argument fits its kind)

theorem own : ownKnob Yba.prog.godebug = none := by kernel_rfl

/-! ### STEP 1: THE WALK: the Go text returns true. 'Grown w w'': the world has at most new blocks (Derived/RowKit3.lean). Part the cases AHEAD of 'go_enter' where a test parts the walk; take each callee by a contract of your own. -/
theorem walk (a0 : ByteArray) (w0 : a0.size ≤ maxLen) (w : World) :
    Calls Yba.prog 4 #[.string a0] w fun e w' => e = .returned (.bool true) ∧ Grown w w' := by
  have hlo := dl_le a0.data.toList
  have hsz : a0.data.toList.length = a0.size := by simp
  by_cases hbig : 1048576 < a0.size
  · go_enter Yba.func4, Yba.ntmps4
    go_wp2
    go_ret
    exact ⟨rfl, Grown.refl _⟩
  · have hn0 : ¬ ((dl a0.data.toList : Int) < 0) := by omega
    have hn1 : ¬ ((a0.size : Int) < (dl a0.data.toList : Int)) := by omega
    have hin : ∀ k (_ : k < dl a0.data.toList) (hk' : k < a0.size), isDI (a0[k].toNat : Int) = true := fun k hk hk' => by
      obtain ⟨h1, h2⟩ := dl_lt _ _ hk
      have h3 := (isD_iff _).1 h2
      simp only [isDI, decide_eq_true_eq]
      exact h3
    have hout : ∀ (hk' : dl a0.data.toList < a0.size), isDI (a0[dl a0.data.toList].toNat : Int) = false := fun hk' => by
      have h2 := dl_at a0.data.toList (by rw [hsz]; exact hk')
      simp only [isDI, decide_eq_false_iff_not]
      intro h
      exact Bool.noConfusion (h2.symm.trans ((isD_iff _).2 h))
    clear hsz
    generalize hN : dl a0.data.toList = N at *
    have HN : Hid (dl a0.data.toList = N) := hN
    clear hN
    have d1 : decide ((1048576 : Int) < (a0.size : Int)) = false := decide_eq_false (by omega)
    have d2 : decide ((N : Int) < 0) = false := decide_eq_false (by omega)
    have d3 : decide (a0.size < N) = false := decide_eq_false (by omega)
    go_enter Yba.func4, Yba.ntmps4
    go_wp2_with (go_at_call 7; refine (digits_any a0 w0 _).mono ?_; rintro e w' ⟨rfl, rfl⟩; rw [HN.out])
    go_loop [4] (fun i => ∃ k : Nat, k ≤ N ∧ i = .int .i64 k) (fun i => N - (intOf i).toNat)
    case atStart => exact ⟨0, by omega, rfl⟩
    case round =>
      obtain ⟨k, hk, rfl⟩ := hrel
      by_cases hlt : k < N
      · have hks : k < a0.size := by simp at hlo; omega
        have hd := hin k hlt hks
        go_wp2_with (go_at_call 8; refine (isdigit_any _ _).mono ?_; rintro e w' ⟨rfl, rfl⟩)
        go_round
        case rel => exact ⟨k + 1, by omega, by go_num⟩
        case measure => simp [intOf]; omega
      · obtain rfl : k = N := by omega
        by_cases hks : k < a0.size
        · have hd := hout hks
          go_wp2_with (go_at_call 8; refine (isdigit_any _ _).mono ?_; rintro e w' ⟨rfl, rfl⟩)
          go_ret
          exact ⟨rfl, Grown.refl _⟩
        · go_wp2
          go_ret
          exact ⟨rfl, Grown.refl _⟩

/-! ### THE ROW's STEP: WRITTEN OUT: LEAVE IT -/
set_option maxRecDepth 100000 in
theorem lifted (os : Os) (started : os.Started) (H : Type) (enc : TypeId × Value → H) :
    ReturnsInHanded {} Yba.checked os 4 .any (Rows.lawS5832CWholeSpec.pre6 enc Yba.prog Yba.f4 Rows.lawS5832CWholeRow.domain false) (Rows.lawS5832CWholeSpec.post enc Yba.prog Yba.f4 false true false false) := by
  refine returnsInHanded_of_change (C := Yba.checked) own started (by kernel_rfl) Yba.func4
    (ChangeSpec.witness6 (enc := enc) (C := Yba.checked) false ⟨#[], #[.string ByteArray.empty], []⟩ 8 (by kernel_rfl) (by kernel_rfl) (by kernel_rfl) (by kernel_rfl)) ?_
  intro W base args ds gs before hval0 hW hcnd _
  have hval : ∀ (j : Nat) t v, Yba.f4.params[j]? = some t → args[j]? = some v → Value.okWide Yba.prog W .any base t v := hval0
  have hW' := hW
  obtain ⟨p, q, hA0, hV, rfl, hfz, hnd⟩ := hW
  have hA : DataW.TrodAll enc Yba.prog W 0 (fun _ => true) true Yba.f4.params.toList args.toList ds p := hA0
  rw [Yba.params4] at hA hval
  obtain ⟨v0, vs0, d0, ds0, p0, q0, hargs, rfl, rfl, h0, r0⟩ := trodAll_cons hA
  obtain ⟨rfl, rfl, rfl⟩ := trodAll_nil r0
  obtain rfl : args = #[v0] := by cases args; simp_all
  obtain ⟨rfl, rfl⟩ := trodVars_none hV
  obtain ⟨a0, rfl, rfl, rfl, w0⟩ := open_string Yba.underlying9 (hval 0 9 v0 rfl rfl) h0
  clear hA0 hval0
  simp only [List.append_nil] at hW'
  refine (walk a0 w0 W).mono fun e W' ⟨he, hg⟩ => ?_
  subst he
  exact ⟨_, rfl, post_of_same (pa := []) (pv := []) hW' (fun _ _ _ => (trodAll_cons_mk (shut_bool Yba.underlying4 _) trodAll_mk0)) (fun sp _ => (trodAll_cons_mk (shut_string Yba.underlying9 w0) trodAll_mk0)) (fun _ _ => rfl) rfl
    (hg.frame _) hg.2.1 (ok_one (by kernel_rfl) rfl (okWide_bool_mk Yba.underlying4 _))⟩

theorem over : Rows.lawS5832CWholeRow.holds Yba.pinned (OpenSpec.ofChange Rows.lawS5832CWholeSpec) :=
  OpenClaim.holds_of_wide 4 Yba.f4 rfl rfl rfl rfl rfl rfl rfl ⟨rfl, rfl, rfl, rfl, rfl⟩ rfl rfl rfl rfl rfl (by kernel_rfl) Yba.func4 (by kernel_rfl)
    (of_decide_eq_true (by kernel_rfl)) (by unfold Func.isWrapper; first | (rw [if_pos (by decide +kernel)]; kernel_rfl) | (rw [if_neg (by decide +kernel)]; exact ⟨rfl, rfl⟩))
    (fun os started H enc _ => lifted os started H enc)

/-- ████ THE STATEMENT ████ -/
theorem proved : Rows.LawS5832CWholeSaid :=
  over
#print axioms proved
end Go.Proofs.Ybulkdpti.lawS5832CWhole

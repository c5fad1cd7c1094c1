/- S5830C: (*workers).start: the key is remembered. slices.Index. -/
import Derived.Test.YbulkdpsgW3
namespace Go.Proofs.Ybulkdpsg
open Go Go.RowKit Go.Proofs Go.Lib
set_option linter.unusedVariables false
set_option linter.unusedSimpArgs false

theorem index53 (ad : Option Addr) (cap : Nat) (l : List Int) (k : Int) (i : Nat) (w : World) (H : Ints w ad l) (hl : l.length ≤ 1000000) (hi : i < l.length) (hk : l[i]! = k) (hf : ∀ q, q < i → l[q]! ≠ k) :
    Calls Yba.prog 53 #[.slice ad l.length cap, .int .i64 k] w fun e w' => e = .returned (.int .i64 (i : Int)) ∧ w = w' := by
  have HH : Hid (Ints w ad l) := H
  have HF : Hid (l[i]! = k ∧ ∀ q, q < i → l[q]! ≠ k) := ⟨hk, hf⟩
  clear H hk hf
  go_enter Yba.func53, Yba.ntmps53
  go_wp2
  go_loopw [8] (fun iv wr => ∃ j : Nat, iv = .int .i64 (j : Int) ∧ j ≤ i ∧ w = wr) (fun iv _ => i - (intOf iv).toNat)
  case atStart => exact ⟨0, rfl, Nat.zero_le _, rfl⟩
  case round =>
    obtain ⟨j, rfl, hj, rfl⟩ := hrel
    have hlt : j < l.length := by omega
    obtain ⟨b, off, rfl, hb, hc⟩ := HH.out j hlt
    by_cases he : j = i
    · subst he
      rw [HF.out.1] at hc
      go_wp2
      go_ret
      exact ⟨rfl, rfl⟩
    · have hx := HF.out.2 j (by omega)
      generalize l[j]! = x at hc hx
      have hb1 : (k == x) = false := beq_false_of_ne (Ne.symm hx)
      clear hx
      go_wp2
      go_roundw
      case rel => exact ⟨j + 1, by go_num, by omega, by first | rfl | trivial⟩
      case measure => simp [intOf]; omega

theorem apart_of {own : Nat → Nat} {w : World} {base nW nK sz lm : Nat} {pen : Int} {I : Ids} {S : WSt} (h : WS own w base nW nK sz lm pen I S) {v : Nat} (hv : v < nW) : Apart I.bm (S.els v) := by
  unfold Apart
  rw [List.nodup_cons]
  refine ⟨fun hm => ?_, h.ap v hv⟩
  obtain ⟨e, he, hb⟩ := List.mem_map.1 hm
  have h1 := h.oel v hv e he
  rw [hb, h.om] at h1
  omega
theorem erase_perm : ∀ {es : List (Nat × Nat)} {i : Nat} {e : Nat × Nat}, es[i]? = some e → (e :: es.eraseIdx i).Perm es
  | [], i, e, h => by simp at h
  | f :: r, 0, e, h => by simp at h; subst h; exact List.Perm.refl _
  | f :: r, i + 1, e, h => by
    simp at h
    rw [List.eraseIdx_cons_succ]
    exact (List.Perm.swap f e _).trans ((erase_perm h).cons f)
/-- The key is remembered: MoveToFront. -/
theorem ws_warm {own : Nat → Nat} {w : World} {base nW nK sz : Nat} {pen : Int} {I : Ids} {S : WSt} (h : WS own w base nW nK sz sz pen I S) {v i : Nat} (hv : v < nW) {e : Nat × Nat} (hi : (S.els v)[i]? = some e) :
    Calls Yba.prog 48 #[pn I.bm (v * 6), pn e.1 0] w fun x w' => x = .returned (.tuple #[]) ∧ ∃ S', StOk own own w w' base nW nK sz sz pen I I S S' v e.2 := by
  obtain ⟨cm, hcm, hl⟩ := h.rm
  have hD : Dl w I.bm (v * 6) (nW * 6) cm (S.els v) := by
    have := (hl v hv).1
    unfold ListOk at this
    split at this
    · exact this
    · rw [this.2] at hi; simp at hi
  have hln := h.ln v hv
  have hb1 := h.b1
  have hb3 := h.b3
  refine (mtf I.bm (v * 6) (nW * 6) cm w (S.els v) (by omega) hD (apart_of h hv) i e hi).mono ?_
  rintro x w' ⟨rfl, cm', hD', hk, hfr⟩
  have hf : FrT own (fun x => x = 3 ∨ x = 20 + v) w w' := FrT.of hfr (fun b _ hb => by
    rcases List.mem_cons.1 hb with rfl | hb
    · exact Or.inl h.om
    · obtain ⟨f, hf, rfl⟩ := List.mem_map.1 hb
      exact Or.inr (h.oel v hv f hf))
  have hmem : e ∈ S.els v := List.mem_of_getElem? hi
  have hp : (e :: (S.els v).eraseIdx i).Perm (S.els v) := erase_perm hi
  refine ⟨rfl, _, ⟨h.relist hv (e :: (S.els v).eraseIdx i) I.hv S.hold hcm hl hD' hk (hf.mono (fun x hx => by omega)) (OwnUp.refl _ _) ?_ ?_ ?_ ?_ ?_ ?_ ?_ ?_ ?_ ?_, rfl, rfl, rfl, ?_, ?_, OwnUp.refl _ _, hf.mono (fun x hx => by have := h.b2; omega)⟩⟩
  · rw [elOf_front (h.kn v hv) hi]; exact hf.mapf (h.mapf v hv) (by rw [h.omp v hv]; omega)
  · exact fun f hf' => h.oel v hv f (hp.mem_iff.1 hf')
  · exact ((hp.map Prod.fst).nodup_iff).2 (h.ap v hv)
  · exact ((hp.map Prod.snd).nodup_iff).2 (h.kn v hv)
  · exact fun f hf' => h.kl v hv f (hp.mem_iff.1 hf')
  · rw [hp.length_eq]; exact h.ln v hv
  · exact hf.row h.rh (by rw [h.oh]; omega)
  · exact h.ohv
  · exact fun k hk' => hf.own (h.ho k hk') (fun b hb => by rw [h.ohv k hk' b hb]; have := h.b2; omega)
  · intro k hk'
    refine ⟨(h.hs k hk').1, fun u => ?_⟩
    rw [(h.hs k hk').2 u]
    by_cases huv : u = v
    · subst huv
      rw [setL_same, (hp.map Prod.snd).mem_iff]
    · rw [setL_other _ _ huv]
  · show (setL S.els v (e :: (S.els v).eraseIdx i) v).map Prod.snd = _
    rw [setL_same, List.map_cons, erase_idx_snd (h.kn v hv) hi]
    unfold memT
    rw [if_pos (List.mem_map.2 ⟨e, hmem, rfl⟩)]
  · exact fun u hu => setL_other _ _ hu
end Go.Proofs.Ybulkdpsg

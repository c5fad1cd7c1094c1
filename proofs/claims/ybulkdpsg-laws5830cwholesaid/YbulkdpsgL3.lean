/- S5830C: the recent keys: the three operations, for every list of at most three. -/
import Derived.Test.YbulkdpsgL2
namespace Go.Proofs.Ybulkdpsg
open Go Go.RowKit Go.Proofs Go.Lib
set_option linter.unusedVariables false
set_option linter.unusedSimpArgs false

def Apart (bm : Nat) (es : List (Nat × Nat)) : Prop := (bm :: es.map Prod.fst).Nodup
theorem front48_first (bm ro N : Nat) (cm : Nat → Value) (w : World) (e : Nat × Nat) (es : List (Nat × Nat)) (D : Dl w bm ro N cm (e :: es)) :
    Calls Yba.prog 48 #[pn bm ro, pn e.1 0] w fun x w' => x = .returned (.tuple #[]) ∧ ∃ cm', Dl w' bm ro N cm' (e :: es) ∧ CmKeep ro cm cm' ∧ Fr (bm :: (e :: es).map Prod.fst) w w' := by
  have hfit := D.fit
  have he : ∃ nx pv, El w bm ro e nx pv := by
    cases es with
    | nil => exact ⟨_, _, D.ch⟩
    | cons f r => exact ⟨_, _, D.ch.1⟩
  obtain ⟨nx, pv, he⟩ := he
  have c0 := D.row.cell (i := ro) (by omega)
  rw [D.nx] at c0
  refine (front48_same bm ro e.1 w (he.cell (i := 2) (by omega)) c0).mono ?_
  rintro x w' ⟨rfl, rfl⟩
  exact ⟨rfl, cm, D, fun _ _ _ _ => rfl, Fr.refl _ _⟩

theorem mtf (bm ro N : Nat) (cm : Nat → Value) (w : World) (es : List (Nat × Nat)) (hl : es.length ≤ 3) (D : Dl w bm ro N cm es) (hA : Apart bm es) (i : Nat) (e : Nat × Nat) (hi : es[i]? = some e) :
    Calls Yba.prog 48 #[pn bm ro, pn e.1 0] w fun x w' => x = .returned (.tuple #[]) ∧ ∃ cm', Dl w' bm ro N cm' (e :: es.eraseIdx i) ∧ CmKeep ro cm cm' ∧ Fr (bm :: es.map Prod.fst) w w' := by
  match es, hl with
  | [], _ => simp at hi
  | (a, ka) :: r, hl =>
    cases i with
    | zero =>
      simp at hi
      subst hi
      exact front48_first bm ro N cm w _ r D
    | succ i =>
      match r, hl with
      | [], _ => simp at hi
      | [(b, kb)], _ =>
        cases i with
        | zero =>
          simp at hi
          subst hi
          simp [Apart] at hA
          obtain ⟨⟨h1, h2⟩, h3⟩ := hA
          exact mtf_21 a b ka kb bm ro N cm w D h3 (Ne.symm h1) (Ne.symm h3) (Ne.symm h2) h1 h2
        | succ i => simp at hi
      | [(b, kb), (c, kc)], _ =>
        simp [Apart] at hA
        obtain ⟨⟨h1, h2, h3⟩, ⟨h4, h5⟩, h6⟩ := hA
        cases i with
        | zero =>
          simp at hi
          subst hi
          exact mtf_31 a b c ka kb kc bm ro N cm w D h4 h5 (Ne.symm h1) (Ne.symm h4) h6 (Ne.symm h2) (Ne.symm h5) (Ne.symm h6) (Ne.symm h3) h1 h2 h3
        | succ i =>
          cases i with
          | zero =>
            simp at hi
            subst hi
            exact mtf_32 a b c ka kb kc bm ro N cm w D h4 h5 (Ne.symm h1) (Ne.symm h4) h6 (Ne.symm h2) (Ne.symm h5) (Ne.symm h6) (Ne.symm h3) h1 h2 h3
          | succ i => simp at hi
      | _ :: _ :: _ :: _, hl => simp at hl
theorem pushf (bm ro N : Nat) (cm : Nat → Value) (w : World) (es : List (Nat × Nat)) (hl : es.length ≤ 3) (D : Dl w bm ro N cm es) (hA : Apart bm es) (ke : Nat) :
    Calls Yba.prog 49 #[pn bm ro, .iface 3 (.int .i64 (ke : Int))] w fun x w' => x = .returned (pn w.heap.size 0) ∧ ∃ cm', Dl w' bm ro N cm' ((w.heap.size, ke) :: es) ∧ CmKeep ro cm cm' ∧ Fr (bm :: es.map Prod.fst) w w' := by
  match es, hl with
  | [], _ => exact push_0 ke bm ro N cm w D
  | [(a, ka)], _ =>
    simp [Apart] at hA
    exact push_1 a ka ke bm ro N cm w D (Ne.symm hA) hA
  | [(a, ka), (b, kb)], _ =>
    simp [Apart] at hA
    obtain ⟨⟨h1, h2⟩, h3⟩ := hA
    exact push_2 a b ka kb ke bm ro N cm w D h3 (Ne.symm h1) (Ne.symm h3) (Ne.symm h2) h1 h2
  | [(a, ka), (b, kb), (c, kc)], _ =>
    simp [Apart] at hA
    obtain ⟨⟨h1, h2, h3⟩, ⟨h4, h5⟩, h6⟩ := hA
    exact push_3 a b c ka kb kc ke bm ro N cm w D h4 h5 (Ne.symm h1) (Ne.symm h4) h6 (Ne.symm h2) (Ne.symm h5) (Ne.symm h6) (Ne.symm h3) h1 h2 h3
  | _ :: _ :: _ :: _ :: _, hl => simp at hl
theorem rmb (bm ro N : Nat) (cm : Nat → Value) (w : World) (es : List (Nat × Nat)) (z : Nat × Nat) (h0 : es ≠ []) (hl : es.length ≤ 3) (D : Dl w bm ro N cm (es ++ [z])) (hA : Apart bm (es ++ [z])) :
    Calls Yba.prog 51 #[pn bm ro, pn z.1 0] w fun x w' => x = .returned (.iface 3 (.int .i64 (z.2 : Int))) ∧ ∃ cm', Dl w' bm ro N cm' es ∧ CmKeep ro cm cm' ∧ Fr (bm :: (es ++ [z]).map Prod.fst) w w' := by
  obtain ⟨d, kd⟩ := z
  match es, hl with
  | [], _ => exact absurd rfl h0
  | [(a, ka)], _ =>
    simp [Apart] at hA
    obtain ⟨⟨h1, h2⟩, h3⟩ := hA
    exact rmb_2 a d ka kd bm ro N cm w D h3 (Ne.symm h1) (Ne.symm h3) (Ne.symm h2) h1 h2
  | [(a, ka), (b, kb)], _ =>
    simp [Apart] at hA
    obtain ⟨⟨h1, h2, h3⟩, ⟨h4, h5⟩, h6⟩ := hA
    exact rmb_3 a b d ka kb kd bm ro N cm w D h4 h5 (Ne.symm h1) (Ne.symm h4) h6 (Ne.symm h2) (Ne.symm h5) (Ne.symm h6) (Ne.symm h3) h1 h2 h3
  | [(a, ka), (b, kb), (c, kc)], _ =>
    simp [Apart] at hA
    obtain ⟨⟨h1, h2, h3, h4⟩, ⟨h5, h6, h7⟩, ⟨h8, h9⟩, h10⟩ := hA
    exact rmb_4 a b c d ka kb kc kd bm ro N cm w D h5 h6 h7 (Ne.symm h1) (Ne.symm h5) h8 h9 (Ne.symm h2) (Ne.symm h6) (Ne.symm h8) h10 (Ne.symm h3) (Ne.symm h7) (Ne.symm h9) (Ne.symm h10) (Ne.symm h4) h1 h2 h3 h4
  | _ :: _ :: _ :: _ :: _, hl => simp at hl
theorem ltP_last (bm ro : Nat) (z : Nat × Nat) : ∀ es : List (Nat × Nat), ltP bm ro (es ++ [z]) = pn z.1 0
  | [] => rfl
  | [_] => rfl
  | _ :: f :: r => ltP_last bm ro z (f :: r)
/-- .. what other lists in the row see of it: nothing. -/
theorem Dl.other {w w' : World} {bm ro ro' N : Nat} {cm cm' : Nat → Value} {es : List (Nat × Nat)} {S : List Nat} (D : Dl w bm ro' N cm es) (hr : w'.rowIs bm 120 N cm') (hk : CmKeep ro cm cm') (h1 : ro' + 6 ≤ ro ∨ ro + 6 ≤ ro') (hf : Fr S w w') (hS : ∀ e ∈ es, e.1 ∉ S) : Dl w' bm ro' N cm' es := by
  have hc : ∀ (es : List (Nat × Nat)) (pv : Value), (∀ e ∈ es, e.1 ∉ S) → Chain w bm ro' pv es → Chain w' bm ro' pv es := by
    intro es
    induction es with
    | nil => intro pv _ h; trivial
    | cons e r ih =>
      intro pv hS h
      cases r with
      | nil => exact hf.row h (hS e (by simp))
      | cons f r => exact ⟨hf.row h.1 (hS e (by simp)), ih _ (fun x hx => hS x (List.mem_cons_of_mem _ hx)) h.2⟩
  exact ⟨hr, D.fit, by rw [hk _ (by omega) (by omega) (by omega)]; exact D.nx, by rw [hk _ (by omega) (by omega) (by omega)]; exact D.pv, by rw [hk _ (by omega) (by omega) (by omega)]; exact D.ln, hc es _ hS D.ch⟩
end Go.Proofs.Ybulkdpsg

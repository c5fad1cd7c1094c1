/- S5830C: the sticky placement: what lies where; warm's closure. -/
import Derived.Test.YbulkdpsgP2
import Derived.Test.YbulkdpsgU3
import Derived.Test.YbulkdpsgR3
namespace Go.Proofs.Ybulkdpsg
open Go Go.RowKit Go.Sort Go.Proofs Go.Lib
set_option linter.unusedVariables false
set_option linter.unusedSimpArgs false

theorem under136 : Yba.prog.underlying 136 = some (.map 3 48) := by kernel_rfl
theorem zero48 (w : World) : (zeroValue 48).run Yba.prog w = .ok (.slice none 0 0) w := by kernel_rfl
structure SId where
  bs : Nat
  bj : Nat
  bst : Nat
  mpj : Nat → Nat
  vw : Nat → Value
  vk : Nat → Nat → Value
structure SSt where
  wl : Nat → List Nat
  bk : Nat → Nat → List Nat
  started : Nat → Bool
def stF (br bt n bw bj nJ bst : Nat) (i : Nat) : Value := if i = 0 then .iface 58 (pn br 0) else if i = 1 then .slice (some ⟨bt, 0, none⟩) n n else if i = 2 then pn bw 0 else if i = 3 then .slice (some ⟨bj, 0, none⟩) nJ nJ else .slice (some ⟨bst, 0, none⟩) n n
def jbF (K : SId) (i : Nat) : Value := if i % 2 = 0 then K.vw (i / 2) else .map (some (K.mpj (i / 2)))
def bkF (K : SId) (B : SSt) (j k : Nat) : Option Value := if B.bk j k = [] then none else some (K.vk j k)
structure St (own : Nat → Nat) (w : World) (base bt n bw br nJ nK : Nat) (K : SId) (B : SSt) : Prop where
  os : own K.bs = 70
  oj : own K.bj = 71
  ot : own K.bst = 72
  ow : ∀ j, j < nJ → ∀ b, (K.vw j).ownBlock = some b → own b = 80 + j
  om : ∀ j, j < nJ → own (K.mpj j) = 90 + j
  ok : ∀ j, j < nJ → ∀ k, k < nK → B.bk j k ≠ [] → ∀ b, (K.vk j k).ownBlock = some b → own b = 100 + 10 * j + k
  rs : w.rowIs K.bs 134 5 (stF br bt n bw K.bj nJ K.bst)
  rj : w.rowIs K.bj 138 (nJ * 2) (jbF K)
  rt : w.rowIs K.bst 4 n (fun t => .bool (B.started t))
  qw : ∀ j, j < nJ → OwnsQ w base (K.vw j) (B.wl j)
  mp : ∀ j, j < nJ → MapF w (K.mpj j) 10000 (bkF K B j)
  qk : ∀ j, j < nJ → ∀ k, k < nK → B.bk j k ≠ [] → OwnsQ w base (K.vk j k) (B.bk j k)
  kd : ∀ j, j < nJ → ∀ k, nK ≤ k → B.bk j k = []
  lw : ∀ j, j < nJ → (B.wl j).length ≤ 2048
  lk : ∀ j, j < nJ → ∀ k, (B.bk j k).length ≤ 2048
  wn : ∀ j, j < nJ → ∀ t ∈ B.wl j, t < n
  kn : ∀ j, j < nJ → ∀ k, ∀ t ∈ B.bk j k, t < n
  b1 : nJ ≤ 4
  b2 : nK ≤ 5
  b3 : n ≤ 2048
/-- The earlier of the two. -/
def conT (cur : Int) (l : List Nat) : Int := match l with
  | [] => cur
  | t :: _ => if cur < 0 ∨ (t : Int) < cur then (t : Int) else cur
set_option maxRecDepth 100000 in
set_option maxHeartbeats 2000000 in
theorem consider102 {w : World} {base : Nat} {K : SId} {B : SSt} (j k bx btk : Nat) (cur : Int) (hj : j < 4) (hk : k < 10000) (cx : w.cell? ⟨bx, 0, none⟩ = some (pn K.bj (j * 2))) (cm : w.cell? ⟨K.bj, j * 2 + 1, none⟩ = some (.map (some (K.mpj j)))) (mf : MapF w (K.mpj j) 10000 (bkF K B j)) (qk : B.bk j k ≠ [] → OwnsQ w base (K.vk j k) (B.bk j k)) (ct : w.cell? ⟨btk, 0, none⟩ = some (.int .i64 cur)) (ft : w.frozen? ⟨btk, 0, none⟩ = false) :
    Calls Yba.prog 102 #[.int .i64 (k : Int), pn bx 0, pn btk 0] w fun e w' => e = .returned (.tuple #[]) ∧ ∃ q, w' = (w.setCell ⟨btk, 0, none⟩ (.int .i64 (conT cur (B.bk j k)))).drewN q ∨ (w' = w.drewN q ∧ conT cur (B.bk j k) = cur) := by
  have mixed := mixedYba
  have hlook := mf.look under136 (zero48 w) hk
  cases hl : B.bk j k with
  | nil =>
    have hb : bkF K B j k = none := by unfold bkF; rw [if_pos hl]
    rw [hb] at hlook
    clear mf qk hl hb
    go_enter Yba.func102, Yba.ntmps102
    go_wp2_with fail
    go_quiet (fail)
    go_wp2
    go_end0
    exact ⟨rfl, _, Or.inr ⟨rfl, rfl⟩⟩
  | cons t r =>
    have hb : bkF K B j k = some (K.vk j k) := by unfold bkF; rw [if_neg (by rw [hl]; simp)]
    rw [hb] at hlook
    obtain ⟨g, off, cap, hform, hcell⟩ := (qk (by rw [hl]; simp)).cell (by rw [hl]; simp)
    have c0 := hcell 0 (by rw [hl]; simp)
    simp only [hl, List.getElem_cons_zero, Nat.add_zero] at c0
    rw [hform, hl] at hlook
    simp only [List.length_cons, Option.getD_some, Option.isSome_some] at hlook
    have zl : (0 : Int) < ((r.length + 1 : Nat) : Int) := by omega
    clear mf qk hl hb hform hcell
    by_cases h1 : cur < 0
    · have hu : conT cur (t :: r) = (t : Int) := if_pos (Or.inl h1)
      rw [hu]
      have hd : decide (cur < 0) = true := decide_eq_true h1
      clear hu h1
      go_enter Yba.func102, Yba.ntmps102
      go_wp2_with fail
      go_quiet (fail)
      go_wp2
      go_end0
      exact ⟨rfl, _, Or.inl rfl⟩
    · have hd : decide (cur < 0) = false := decide_eq_false h1
      by_cases h2 : (t : Int) < cur
      · have hu : conT cur (t :: r) = (t : Int) := if_pos (Or.inr h2)
        rw [hu]
        have hd2 : decide ((t : Int) < cur) = true := decide_eq_true h2
        clear hu h1 h2
        go_enter Yba.func102, Yba.ntmps102
        go_wp2_with fail
        go_quiet (fail)
        go_wp2
        go_end0
        exact ⟨rfl, _, Or.inl rfl⟩
      · have hu : conT cur (t :: r) = cur := if_neg (by omega)
        rw [hu]
        have hd2 : decide ((t : Int) < cur) = false := decide_eq_false h2
        clear hu h1 h2
        go_enter Yba.func102, Yba.ntmps102
        go_wp2_with fail
        go_quiet (fail)
        go_wp2
        go_end0
        exact ⟨rfl, _, Or.inr ⟨rfl, by first | rfl | trivial⟩⟩
theorem conT_cons (cur : Int) (t : Nat) (l : List Nat) : conT cur (t :: l) = if cur < 0 ∨ (t : Int) < cur then (t : Int) else cur := rfl
/-- The best of the keys in P. -/
def BestOf (bk : Nat → List Nat) (P : Nat → Prop) (r : Int) : Prop := (r = -1 ∧ ∀ k, P k → bk k = []) ∨ ∃ k t l, P k ∧ bk k = t :: l ∧ r = (t : Int) ∧ ∀ k' t' l', P k' → bk k' = t' :: l' → t ≤ t'
theorem BestOf.start (bk : Nat → List Nat) (P : Nat → Prop) (h : ∀ k, ¬ P k) : BestOf bk P (-1) := Or.inl ⟨rfl, fun k hk => absurd hk (h k)⟩
theorem BestOf.congr {bk : Nat → List Nat} {P P' : Nat → Prop} {r : Int} (h : BestOf bk P r) (hp : ∀ k, bk k ≠ [] → (P k ↔ P' k)) : BestOf bk P' r := by
  rcases h with ⟨h1, h2⟩ | ⟨k, t, l, h1, h2, h3, h4⟩
  · refine Or.inl ⟨h1, fun k hk => ?_⟩
    by_cases e : bk k = []
    · exact e
    · exact h2 k ((hp k e).2 hk)
  · refine Or.inr ⟨k, t, l, (hp k (by rw [h2]; simp)).1 h1, h2, h3, fun k' t' l' a b => h4 k' t' l' ((hp k' (by rw [b]; simp)).2 a) b⟩
theorem BestOf.step {bk : Nat → List Nat} {P : Nat → Prop} {r : Int} (h : BestOf bk P r) (k : Nat) : BestOf bk (fun x => P x ∨ x = k) (conT r (bk k)) := by
  cases hb : bk k with
  | nil =>
    show BestOf bk _ r
    refine h.congr (fun x hx => ⟨Or.inl, fun hh => ?_⟩)
    rcases hh with hh | rfl
    · exact hh
    · exact absurd hb hx
  | cons t l =>
    rcases h with ⟨h1, h2⟩ | ⟨k0, t0, l0, h1, h2, h3, h4⟩
    · rw [h1]
      refine Or.inr ⟨k, t, l, Or.inr rfl, hb, (by rw [conT_cons]; exact if_pos (Or.inl (by omega))), fun k' t' l' a b => ?_⟩
      rcases a with a | rfl
      · rw [h2 k' a] at b; cases b
      · rw [hb] at b; cases b; exact Nat.le_refl _
    · rw [h3]
      by_cases hlt : t < t0
      · refine Or.inr ⟨k, t, l, Or.inr rfl, hb, (by rw [conT_cons]; exact if_pos (Or.inr (by omega))), fun k' t' l' a b => ?_⟩
        rcases a with a | rfl
        · have := h4 k' t' l' a b; omega
        · rw [hb] at b; cases b; exact Nat.le_refl _
      · refine Or.inr ⟨k0, t0, l0, Or.inl h1, h2, (by rw [conT_cons]; exact if_neg (by omega)), fun k' t' l' a b => ?_⟩
        rcases a with a | rfl
        · exact h4 k' t' l' a b
        · rw [hb] at b; cases b; omega
set_option maxRecDepth 100000 in
set_option maxHeartbeats 1000000 in
theorem md_rule (x : Value) (w : World) : (method 310 58 x "Done").run Yba.prog w = .ok (121, x) w ∧ (method 310 58 x "Enqueue").run Yba.prog w = .ok (122, x) w ∧ (method 310 58 x "Start").run Yba.prog w = .ok (123, x) w ∧ (method 310 58 x "AddJob").run Yba.prog w = .ok (93, x) w := ⟨by kernel_rfl, by kernel_rfl, by kernel_rfl, by kernel_rfl⟩
theorem cf121 (args : Array Value) (w : World) : (callFunc 121 args).run Yba.prog w = .ok (.enter 121 args) w := by kernel_rfl
theorem cf122 (args : Array Value) (w : World) : (callFunc 122 args).run Yba.prog w = .ok (.enter 122 args) w := by kernel_rfl
theorem cf123 (args : Array Value) (w : World) : (callFunc 123 args).run Yba.prog w = .ok (.enter 123 args) w := by kernel_rfl
theorem cf102 (args : Array Value) (w : World) : (callFunc 102 args).run Yba.prog w = .ok (.enter 102 args) w := by kernel_rfl
end Go.Proofs.Ybulkdpsg

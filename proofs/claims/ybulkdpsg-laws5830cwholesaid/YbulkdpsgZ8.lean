/- S5830C: the law's helpers over its rows. -/
import Derived.Test.YbulkdpsgZ3
import Derived.Test.YbulkdpsgH1
namespace Go.Proofs.Ybulkdpsg
open Go Go.RowKit Go.Sort Go.Proofs Go.Lib
set_option linter.unusedVariables false
set_option linter.unusedSimpArgs false
theorem ints_own {w : World} {base : Nat} {v : Value} {l : List Int} (h : w.ownsRow base 3 1 v l.length (iL l)) : ∃ ad cap, v = .slice ad l.length cap ∧ Ints w ad l := by
  by_cases hz : 0 < l.length
  · obtain ⟨g, cap, rfl, _⟩ := h.form (by omega)
    refine ⟨_, cap, rfl, fun i hi => ⟨g, 0, rfl, ?_⟩⟩
    have hlt := (own_cell h (j := i) (u := .int .i64 (l[i]!)) (by unfold iL; rw [List.getElem?_map, List.getElem?_eq_getElem hi, getElem!_pos l i hi]; rfl)).2.2.1
    have := (own_cell h (j := i) (u := .int .i64 (l[i]!)) (by unfold iL; rw [List.getElem?_map, List.getElem?_eq_getElem hi, getElem!_pos l i hi]; rfl)).1
    rw [Nat.zero_add]; exact ⟨hlt, this⟩
  · have e : l = [] := by cases l with
      | nil => rfl
      | cons a b => simp at hz
    subst e
    rcases h.2 with ⟨h1, _⟩ | ⟨g, cap, cur, rfl, _⟩
    · exact ⟨none, 0, h1, fun i hi => by simp at hi⟩
    · exact ⟨_, cap, rfl, fun i hi => by simp at hi⟩
theorem rmL_rmQ (f : Nat → Nat) (o : Nat → Bool) (n : Nat) : rmL f o n = rmQ f o n := by
  induction n with
  | zero => rfl
  | succ n ih => show rmB _ _ _ _ = rmQ1 _ _ _ _; rw [ih]; rfl
theorem iN_mem {l : List Nat} {k : Nat} : (k : Int) ∈ iN l ↔ k ∈ l := by
  unfold iN
  rw [List.mem_map]
  constructor
  · rintro ⟨x, h1, h2⟩; rw [← show x = k by omega]; exact h1
  · exact fun h => ⟨k, h, rfl⟩
section
variable {X : Inp} {z : Nat} {wz w : World} {s : MS}
theorem mr_room (hX : InpOk X) (M : MR X z wz w s) (k : Int) : Calls Yba.prog 13 #[.slice (some ⟨z + 8, 0, none⟩) X.nW X.nW, .slice (some ⟨z + 9, 0, none⟩) X.nW X.nW, .int .i64 k] w fun e w' => e = .returned (.int .i64 (rmL (fr (parB X) s) (okM (fun v => iN (s.mem v)) k) X.nW)) ∧ ∃ q, w' = w.drewN q := by
  obtain ⟨vm, h1, h2⟩ := M.r9
  have hb := hX.b2
  have hc := hX.b5
  refine room13 (z + 8) (z + 9) X.nW k (fr (parB X) s) (fun v => iN (s.mem v)) w hX.b2.2 (fun v hv => ?_) (fun v hv => M.r8.cell hv) (fun v hv => ?_)
  · have := (M.mi.ml v).1
    show (iN (s.mem v)).length ≤ 100
    unfold iN; rw [List.length_map]
    have h3 : (parB X).sz = X.nC := rfl
    omega
  · obtain ⟨ad, cap, h3, h4⟩ := ints_own (h2 v hv)
    exact ⟨ad, cap, by rw [h1.cell hv, h3], h4⟩
theorem room_k (k : Nat) : rmL (fr (parB X) s) (okM (fun v => iN (s.mem v)) (k : Int)) X.nW = rm (parB X) s k := by
  rw [rmL_rmQ]
  unfold rm
  refine rmQ_congr fun v hv => ⟨rfl, ?_⟩
  unfold okM
  exact decide_eq_decide.2 ⟨fun h => by rcases h with h | h; omega; exact iN_mem.1 h, fun h => Or.inr (iN_mem.2 h)⟩
theorem room_a : rmL (fr (parB X) s) (okM (fun v => iN (s.mem v)) (-1)) X.nW = rmA (parB X) s := by
  rw [rmL_rmQ]
  unfold rmA
  exact rmQ_congr fun v hv => ⟨rfl, by simp [okM]⟩
def ltB (X : Inp) (i t : Nat) : Bool := decide (X.arr i < X.arr t ∨ (X.arr i = X.arr t ∧ i < t))
theorem mr_before {bj bk bd ba : Nat} (hX : InpOk X) (C : Cst X bj bk bd ba wz) (M : MR X z wz w s) {i t : Nat} (hi : i < X.n) (ht : t < X.n) : Calls Yba.prog 14 #[.slice (some ⟨ba, 0, none⟩) X.n X.n, .int .i64 (i : Int), .int .i64 (t : Int)] w fun e w' => e = .returned (.bool (ltB X i t)) ∧ ∃ q, w' = w.drewN q := by
  have hl : ((List.range X.n).map (fun i => (X.arr i : Int))).length = X.n := by simp
  have hn := hX.b1
  have hg : ∀ k, k < X.n → ((List.range X.n).map (fun i => (X.arr i : Int)))[k]! = (X.arr k : Int) := fun k hk => by rw [getElem!_pos _ k (by rw [hl]; exact hk)]; simp
  have h := before14 (some ⟨ba, 0, none⟩) X.n ((List.range X.n).map (fun i => (X.arr i : Int))) i t (by rw [hl]; exact hi) (by rw [hl]; exact ht) w (fun k hk => ⟨ba, 0, rfl, by
    rw [hl] at hk
    rw [hg k hk, Nat.zero_add]
    exact ⟨Nat.lt_of_lt_of_le C.a.lt M.fr.size, M.fr.cell (C.a.cell hk) (by simp)⟩⟩) (by rw [hl]; omega)
  rw [hl, hg i hi, hg t ht] at h
  have e : befI (X.arr i : Int) (X.arr t : Int) i t = ltB X i t := by
    unfold befI ltB
    refine decide_eq_decide.2 ?_
    omega
  rw [e] at h
  exact h
end
/-- The best of the rows up to i whose key is remembered. -/
def BestW (X : Inp) (s : MS) (j i : Nat) (t v : Int) : Prop := (t = -1 ∧ v = -1 ∧ ∀ k, k < i → W (parB X) s j k → rm (parB X) s (X.key k) = -1) ∨ ∃ tn vn : Nat, t = (tn : Int) ∧ v = (vn : Int) ∧ tn < i ∧ W (parB X) s j tn ∧ rm (parB X) s (X.key tn) = (vn : Int) ∧ ∀ k, k < i → W (parB X) s j k → (parB X).lt k tn → rm (parB X) s (X.key k) = -1
theorem bw_skip {X : Inp} {s : MS} {j i : Nat} {t v : Int} (h : BestW X s j i t v) (hn : ¬ W (parB X) s j i ∨ rm (parB X) s (X.key i) = -1 ∨ ∃ tn : Nat, t = (tn : Int) ∧ ¬ (parB X).lt i tn) : BestW X s j (i + 1) t v := by
  rcases h with ⟨h1, h2, h3⟩ | ⟨tn, vn, h1, h2, h3, h4, h5, h6⟩
  · refine Or.inl ⟨h1, h2, fun k hk hw => ?_⟩
    by_cases e : k = i
    · subst e
      rcases hn with hn | hn | ⟨tn, hn, _⟩
      · exact absurd hw hn
      · exact hn
      · omega
    · exact h3 k (by omega) hw
  · refine Or.inr ⟨tn, vn, h1, h2, by omega, h4, h5, fun k hk hw hl => ?_⟩
    by_cases e : k = i
    · subst e
      rcases hn with hn | hn | ⟨tn', hn, hn2⟩
      · exact absurd hw hn
      · exact hn
      · have : tn' = tn := by omega
        subst this; exact absurd hl hn2
    · exact h6 k (by omega) hw hl
theorem bw_take {X : Inp} {s : MS} {j i vn : Nat} {t v : Int} (h : BestW X s j i t v) (hw : W (parB X) s j i) (hr : rm (parB X) s (X.key i) = (vn : Int)) (hb : t = -1 ∨ ∃ tn : Nat, t = (tn : Int) ∧ (parB X).lt i tn) : BestW X s j (i + 1) (i : Int) (vn : Int) := by
  refine Or.inr ⟨i, vn, rfl, rfl, by omega, hw, hr, fun k hk hw' hl => ?_⟩
  have hki : k ≠ i := fun e => by subst e; have : X.arr k < X.arr k ∨ (X.arr k = X.arr k ∧ k < k) := hl; omega
  rcases h with ⟨h1, h2, h3⟩ | ⟨tn, vn', h1, h2, h3, h4, h5, h6⟩
  · exact h3 k (by omega) hw'
  · refine h6 k (by omega) hw' ?_
    rcases hb with hb | ⟨tn', hb, hb2⟩
    · omega
    · have : tn' = tn := by omega
      subst this
      have x1 : X.arr k < X.arr i ∨ (X.arr k = X.arr i ∧ k < i) := hl
      have x2 : X.arr i < X.arr tn' ∨ (X.arr i = X.arr tn' ∧ i < tn') := hb2
      show X.arr k < X.arr tn' ∨ (X.arr k = X.arr tn' ∧ k < tn')
      omega
/-- The first of the rows up to i that fit. -/
def BestP (X : Inp) (F : Nat → Prop) (i : Nat) (t : Int) : Prop := (t = -1 ∧ ∀ k, k < i → ¬ F k) ∨ ∃ tn : Nat, t = (tn : Int) ∧ tn < i ∧ F tn ∧ ∀ k, k < i → F k → ¬ (parB X).lt k tn
theorem bp_skip {X : Inp} {F : Nat → Prop} {i : Nat} {t : Int} (h : BestP X F i t) (hn : ¬ F i ∨ ∃ tn : Nat, t = (tn : Int) ∧ ¬ (parB X).lt i tn) : BestP X F (i + 1) t := by
  rcases h with ⟨h1, h2⟩ | ⟨tn, h1, h2, h3, h4⟩
  · refine Or.inl ⟨h1, fun k hk hf => ?_⟩
    by_cases e : k = i
    · subst e
      rcases hn with hn | ⟨tn, hn, _⟩
      · exact hn hf
      · omega
    · exact h2 k (by omega) hf
  · refine Or.inr ⟨tn, h1, by omega, h3, fun k hk hf => ?_⟩
    by_cases e : k = i
    · subst e
      rcases hn with hn | ⟨tn', hn, hn2⟩
      · exact absurd hf hn
      · have : tn' = tn := by omega
        subst this; exact hn2
    · exact h4 k (by omega) hf
theorem bp_take {X : Inp} {F : Nat → Prop} {i : Nat} {t : Int} (h : BestP X F i t) (hf : F i) (hb : t = -1 ∨ ∃ tn : Nat, t = (tn : Int) ∧ (parB X).lt i tn) : BestP X F (i + 1) (i : Int) := by
  refine Or.inr ⟨i, rfl, by omega, hf, fun k hk hf' hl => ?_⟩
  have x0 : X.arr k < X.arr i ∨ (X.arr k = X.arr i ∧ k < i) := hl
  rcases h with ⟨h1, h2⟩ | ⟨tn, h1, h2, h3, h4⟩
  · by_cases e : k = i
    · subst e; omega
    · exact h2 k (by omega) hf'
  · by_cases e : k = i
    · subst e; omega
    · refine h4 k (by omega) hf' ?_
      rcases hb with hb | ⟨tn', hb, hb2⟩
      · omega
      · have : tn' = tn := by omega
        subst this
        have x2 : X.arr i < X.arr tn' ∨ (X.arr i = X.arr tn' ∧ i < tn') := hb2
        show X.arr k < X.arr tn' ∨ (X.arr k = X.arr tn' ∧ k < tn')
        omega
end Go.Proofs.Ybulkdpsg

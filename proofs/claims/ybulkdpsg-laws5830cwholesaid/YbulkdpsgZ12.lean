/- S5830C: the law: a task starts: plain. -/
import Derived.Test.YbulkdpsgZ8
namespace Go.Proofs.Ybulkdpsg
open Go Go.RowKit Go.Sort Go.Proofs Go.Lib
set_option linter.unusedVariables false
set_option linter.unusedSimpArgs false
theorem toS_fold (k : Int) (sz : Nat) : ∀ (l o : List Int), l.foldl (toS k sz) o = o ++ (l.filter (fun x => decide (x ≠ k))).take (sz - o.length)
  | [], o => by simp
  | x :: r, o => by
    rw [List.foldl_cons, toS_fold k sz r]
    unfold toS
    by_cases h1 : x = k
    · subst h1; simp
    · by_cases h2 : o.length < sz
      · rw [if_pos ⟨h1, h2⟩, List.filter_cons, if_pos (by simpa using h1), List.append_assoc, List.length_append]
        obtain ⟨d, hd⟩ : ∃ d, sz - o.length = d + 1 := ⟨sz - o.length - 1, by omega⟩
        rw [hd, List.take_succ_cons, show sz - (o.length + [x].length) = d by simp; omega]
        rfl
      · rw [if_neg (fun h => h2 h.2), show sz - o.length = 0 by omega]; simp
theorem iN_filter (m : List Nat) (k : Nat) : (iN m).filter (fun x => decide (x ≠ (k : Int))) = iN (m.filter (fun x => x != k)) := by
  induction m with
  | nil => rfl
  | cons x r ih =>
    show List.filter _ ((x : Int) :: iN r) = _
    rw [List.filter_cons, List.filter_cons]
    by_cases e : x = k
    · subst e
      rw [if_neg (by simp), if_neg (by simp)]; exact ih
    · have h1 : decide ((x : Int) ≠ (k : Int)) = true := by simp; omega
      have h2 : (x != k) = true := by simpa using e
      rw [if_pos h1, if_pos h2, ih]; rfl
theorem toL_mem {sz k : Nat} {m : List Nat} (hn : m.Nodup) (hl : m.length ≤ sz) (hk : k ∈ m ∨ 0 < sz) : toL (k : Int) sz (iN m) = iN (memQ sz m k) := by
  unfold toL
  rw [toS_fold, iN_filter]
  show (k : Int) :: (iN (m.filter (fun x => x != k))).take (sz - 1) = _
  unfold memQ
  by_cases e : k ∈ m
  · rw [if_pos e, hn.erase_eq_filter k]
    have hlen : (m.filter (fun x => x != k)).length ≤ sz - 1 := by
      have h1 := List.length_erase (a := k) (l := m)
      rw [if_pos e, hn.erase_eq_filter k] at h1
      have h2 := List.length_pos_of_mem e
      omega
    rw [List.take_of_length_le (by unfold iN; rw [List.length_map]; exact hlen)]
    rfl
  · rw [if_neg e]
    have hsz : 0 < sz := by rcases hk with h | h; exact absurd h e; exact h
    rw [if_neg (by omega)]
    have hf : m.filter (fun x => x != k) = m := by
      rw [List.filter_eq_self]
      intro x hx
      simp
      intro h
      subst h
      exact e hx
    rw [hf]
    obtain ⟨d, rfl⟩ : ∃ d, sz = d + 1 := ⟨sz - 1, by omega⟩
    rw [List.take_succ_cons]
    unfold iN
    rw [← List.map_take]
    rfl
theorem own_base {w : World} {base base' e n : Nat} {v : Value} {xs : List Value} (h : w.ownsRow base e 1 v n xs) (hb : base' ≤ base) : w.ownsRow base' e 1 v n xs := by
  refine ⟨h.1, ?_⟩
  rcases h.2 with h1 | ⟨g, cap, cur, h1, h2, h3⟩
  · exact Or.inl h1
  · exact Or.inr ⟨g, cap, cur, h1, by omega, h3⟩
section
variable {X : Inp} {z : Nat} {wz w : World} {s : MS}
theorem mr_mem (M : MR X z wz w s) {v : Nat} (hv : v < X.nW) : ∃ ad cap, w.cell? ⟨z + 9, v, none⟩ = some (.slice ad (iN (s.mem v)).length cap) ∧ Ints w ad (iN (s.mem v)) ∧ w.ownsRow (z + 12) 3 1 (.slice ad (iN (s.mem v)).length cap) (iN (s.mem v)).length (iL (iN (s.mem v))) := by
  obtain ⟨vm, h1, h2⟩ := M.r9
  obtain ⟨ad, cap, h3, h4⟩ := ints_own (h2 v hv)
  exact ⟨ad, cap, by rw [h1.cell hv, h3], h4, by rw [← h3]; exact h2 v hv⟩
theorem mr_len (hX : InpOk X) (M : MR X z wz w s) (v : Nat) : (iN (s.mem v)).length ≤ X.nC ∧ X.nC ≤ 3 := by
  have := (M.mi.ml v).1
  have h3 : (parB X).sz = X.nC := rfl
  unfold iN; rw [List.length_map]
  exact ⟨by omega, hX.b5⟩
theorem mr_touch (hX : InpOk X) (M : MR X z wz w s) {v k : Nat} (hv : v < X.nW) {ad : Option Addr} {cap : Nat} (hI : Ints w ad (iN (s.mem v))) (ho : w.ownsRow (z + 12) 3 1 (.slice ad (iN (s.mem v)).length cap) (iN (s.mem v)).length (iL (iN (s.mem v)))) :
    Calls Yba.prog 16 #[.slice ad (iN (s.mem v)).length cap, .int .i64 (k : Int), .int .i64 (X.nC : Int)] w fun e w' => ∃ vn, e = .returned vn ∧ w'.ownsRow (z + 12) 3 1 vn (iN (memQ X.nC (s.mem v) k)).length (iL (iN (memQ X.nC (s.mem v) k))) ∧ Fr [] w w' := by
  have hl := mr_len hX M v
  have hm := M.mi.ml v
  have hsz : (s.mem v).length ≤ X.nC := hm.1
  by_cases hk : k ∈ s.mem v ∨ 0 < X.nC
  · refine (touch16 ad cap (iN (s.mem v)) (k : Int) X.nC w hI (by omega) (by rcases hk with h | h; exact Or.inl (iN_mem.2 h); exact Or.inr h) (by omega)).mono ?_
    rintro e w' ⟨vn, h1, h2, h3⟩
    rw [toL_mem hm.2.1 hsz hk] at h2
    exact ⟨vn, h1, own_base h2 M.gr, h3⟩
  · have h0 : X.nC = 0 := by omega
    have hk2 : k ∉ s.mem v := fun h => hk (Or.inl h)
    have h00 : (X.nC : Int) ≤ 0 := by omega
    refine (touch16_same ad cap (iN (s.mem v)) (k : Int) (X.nC : Int) w hI (by omega) (fun h => hk2 (iN_mem.1 h)) h00).mono ?_
    rintro e w' ⟨h1, rfl⟩
    refine ⟨_, h1, ?_, Fr.refl _ _⟩
    have : memQ X.nC (s.mem v) k = s.mem v := by unfold memQ; rw [if_neg hk2, if_pos h0]
    rw [this]; exact ho
theorem MR.startStep (h : MR X z wz w s) (hX : InpOk X) {t v : Nat} (hp : Pick (parB X) s t v) {w1 : World} {vn : Value} (hf : Fr [] w w1) (hown : w1.ownsRow (z + 12) 3 1 vn (iN (memQ X.nC (s.mem v) (X.key t))).length (iL (iN (memQ X.nC (s.mem v) (X.key t))))) :
    MR X z wz (((((((((w1.setCell ⟨z + 9, v, none⟩ vn).setCell ⟨z + 8, v, none⟩ (.int .i64 ((Ybulkdpsg.fr (parB X) s v : Int) - 1))).setCell ⟨z + 10, X.job t, none⟩ (.int .i64 ((infl (parB X) s (X.job t) : Int) + 1))).setCell ⟨z + 11, X.job t, none⟩ (.int .i64 ((wait (parB X) s (X.job t) : Int) - 1))).setCell ⟨z + 2, t, none⟩ (.bool true)).setCell ⟨z + 5, t, none⟩ (.int .i64 (s.now : Int))).setCell ⟨z + 6, t, none⟩ (.int .i64 (enOf (parB X) s t v : Int))).setCell ⟨z + 7, t, none⟩ (.int .i64 (v : Int))).setCell ⟨z + 4, t, none⟩ (.bool (isCold (parB X) s t v))) (start (parB X) s t v) := by
  have hz := h.zs
  have gr := h.gr
  obtain ⟨htn, hta, hts, hvW, hvf⟩ := pick_facts hp
  have hte : s.ended t = false := by
    cases e : s.ended t with
    | false => rfl
    | true => have := h.mi.es t e; rw [hts] at this; cases this
  obtain ⟨vm, hm1, hm2⟩ := h.r9
  have fs := hf.size
  have hsame : ∀ {b : Nat} {ty : TypeId} {n : Nat} {f : Nat → Value}, w.rowIs b ty n f → b ≠ z + 9 → b ≠ z + 8 → b ≠ z + 10 → b ≠ z + 11 → b ≠ z + 2 → b ≠ z + 5 → b ≠ z + 6 → b ≠ z + 7 → b ≠ z + 4 → (((((((((w1.setCell ⟨z + 9, v, none⟩ vn).setCell ⟨z + 8, v, none⟩ (.int .i64 ((Ybulkdpsg.fr (parB X) s v : Int) - 1))).setCell ⟨z + 10, X.job t, none⟩ (.int .i64 ((infl (parB X) s (X.job t) : Int) + 1))).setCell ⟨z + 11, X.job t, none⟩ (.int .i64 ((wait (parB X) s (X.job t) : Int) - 1))).setCell ⟨z + 2, t, none⟩ (.bool true)).setCell ⟨z + 5, t, none⟩ (.int .i64 (s.now : Int))).setCell ⟨z + 6, t, none⟩ (.int .i64 (enOf (parB X) s t v : Int))).setCell ⟨z + 7, t, none⟩ (.int .i64 (v : Int))).setCell ⟨z + 4, t, none⟩ (.bool (isCold (parB X) s t v))).rowIs b ty n f := fun hr a1 a2 a3 a4 a5 a6 a7 a8 a9 =>
    ((((((((((hf.row hr (by simp)).so a1 _).so a2 _).so a3 _).so a4 _).so a5 _).so a6 _).so a7 _).so a8 _).so a9 _)
  have ud : ∀ {α : Type} (f : Nat → α) (x : α) (k : Nat), upd f t x k = if k = t then x else f k := fun f x k => rfl
  refine ⟨?_, hz, ?_, hsame h.ro (by omega) (by omega) (by omega) (by omega) (by omega) (by omega) (by omega) (by omega) (by omega), hsame h.r1 (by omega) (by omega) (by omega) (by omega) (by omega) (by omega) (by omega) (by omega) (by omega), ?_, hsame h.r3 (by omega) (by omega) (by omega) (by omega) (by omega) (by omega) (by omega) (by omega) (by omega), ?_, ?_, ?_, ?_, ?_, ?_, ?_, ?_, h.mi.start (pb_B hX) htn hta hts hvW hvf⟩
  · have f1 : Fr [] wz w1 := h.fr.trans hf
    exact fr_upd (fr_upd (fr_upd (fr_upd (fr_upd (fr_upd (fr_upd (fr_upd (fr_upd f1 (by omega) _) (by omega) _) (by omega) _) (by omega) _) (by omega) _) (by omega) _) (by omega) _) (by omega) _) (by omega) _
  · simp [World.setCell]; omega
  · refine ((((((((((hf.row h.r2 (by simp)).so (by omega) _).so (by omega) _).so (by omega) _).so (by omega) _).set t _).so (by omega) _).so (by omega) _).so (by omega) _).so (by omega) _).congr fun k hk => ?_
    show _ = Value.bool (upd s.started t true k); rw [ud]; split <;> rfl
  · refine ((((((((((hf.row h.r4 (by simp)).so (by omega) _).so (by omega) _).so (by omega) _).so (by omega) _).so (by omega) _).so (by omega) _).so (by omega) _).so (by omega) _).set t _).congr fun k hk => ?_
    show _ = Value.bool (upd s.cold t (isCold (parB X) s t v) k); rw [ud]; split <;> rfl
  · refine ((((((((((hf.row h.r5 (by simp)).so (by omega) _).so (by omega) _).so (by omega) _).so (by omega) _).so (by omega) _).set t _).so (by omega) _).so (by omega) _).so (by omega) _).congr fun k hk => ?_
    show _ = Value.int .i64 ((upd s.st t s.now k : Nat) : Int); rw [ud]; split <;> rfl
  · refine ((((((((((hf.row h.r6 (by simp)).so (by omega) _).so (by omega) _).so (by omega) _).so (by omega) _).so (by omega) _).so (by omega) _).set t _).so (by omega) _).so (by omega) _).congr fun k hk => ?_
    show _ = Value.int .i64 ((upd s.en t (enOf (parB X) s t v) k : Nat) : Int); rw [ud]; split <;> rfl
  · refine ((((((((((hf.row h.r7 (by simp)).so (by omega) _).so (by omega) _).so (by omega) _).so (by omega) _).so (by omega) _).so (by omega) _).so (by omega) _).set t _).so (by omega) _).congr fun k hk => ?_
    show _ = Value.int .i64 ((upd s.wk t v k : Nat) : Int); rw [ud]; split <;> rfl
  · refine ((((((((((hf.row h.r8 (by simp)).so (by omega) _).set v _).so (by omega) _).so (by omega) _).so (by omega) _).so (by omega) _).so (by omega) _).so (by omega) _).so (by omega) _).congr fun k hk => ?_
    have hr := runs_st (A := parB X) (v := v) htn hts hte k
    have hfc := h.mi.fc k
    show (if k = v then _ else _) = _
    by_cases e : k = v
    · subst e; rw [if_pos rfl]; rw [if_pos rfl] at hr; unfold Ybulkdpsg.fr at hvf ⊢; congr 1; omega
    · rw [if_neg e]; rw [if_neg (fun hh => e hh.symm)] at hr; unfold Ybulkdpsg.fr; congr 2; omega
  · refine ⟨_, (((((((((hf.row hm1 (by simp)).set v vn).so (by omega) _).so (by omega) _).so (by omega) _).so (by omega) _).so (by omega) _).so (by omega) _).so (by omega) _).so (by omega) _, fun u hu => ?_⟩
    show World.ownsRow _ _ _ _ (if u = v then vn else vm u) _ _
    have hmem : (start (parB X) s t v).mem u = if u = v then memQ X.nC (s.mem v) (X.key t) else s.mem u := rfl
    rw [hmem]
    by_cases e : u = v
    · rw [if_pos e, if_pos e]
      exact own_upd (own_upd (own_upd (own_upd (own_upd (own_upd (own_upd (own_upd (own_upd hown (by omega) _) (by omega) _) (by omega) _) (by omega) _) (by omega) _) (by omega) _) (by omega) _) (by omega) _) (by omega) _
    · rw [if_neg e, if_neg e]
      exact own_upd (own_upd (own_upd (own_upd (own_upd (own_upd (own_upd (own_upd (own_upd (own_frW (hm2 u hu) hf (by simp)) (by omega) _) (by omega) _) (by omega) _) (by omega) _) (by omega) _) (by omega) _) (by omega) _) (by omega) _) (by omega) _
  · refine ((((((((((hf.row h.r10 (by simp)).so (by omega) _).so (by omega) _).set (X.job t) _).so (by omega) _).so (by omega) _).so (by omega) _).so (by omega) _).so (by omega) _).so (by omega) _).congr fun k hk => ?_
    have hr : infl (parB X) (start (parB X) s t v) k = infl (parB X) s k + (if X.job t = k then 1 else 0) := infl_start (A := parB X) (v := v) htn hts hte k
    show (if k = X.job t then _ else _) = _
    by_cases e : k = X.job t
    · rw [if_pos e, ← e]; rw [if_pos e.symm] at hr; congr 1; omega
    · rw [if_neg e]; rw [if_neg (fun hh => e hh.symm)] at hr; congr 2; omega
  · refine ((((((((((hf.row h.r11 (by simp)).so (by omega) _).so (by omega) _).so (by omega) _).set (X.job t) _).so (by omega) _).so (by omega) _).so (by omega) _).so (by omega) _).so (by omega) _).congr fun k hk => ?_
    have hr : wait (parB X) s k = wait (parB X) (start (parB X) s t v) k + (if X.job t = k then 1 else 0) := wait_start (A := parB X) (v := v) htn hta hts k
    show (if k = X.job t then _ else _) = _
    by_cases e : k = X.job t
    · rw [if_pos e, ← e]; rw [if_pos e.symm] at hr; congr 1; omega
    · rw [if_neg e]; rw [if_neg (fun hh => e hh.symm)] at hr; congr 2
end
end Go.Proofs.Ybulkdpsg

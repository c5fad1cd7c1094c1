/- S5830C: a map of small keys is small; going over one. -/
import Derived.Test.YbulkdpsgM1
namespace Go.Proofs.Ybulkdpsg
open Go Go.RowKit Go.Proofs Go.Lib
set_option linter.unusedVariables false
set_option linter.unusedSimpArgs false

theorem php : ∀ (N : Nat) (l : List Nat), l.Nodup → (∀ x ∈ l, x < N) → l.length ≤ N
  | 0, l, _, h => by
    cases l with
    | nil => simp
    | cons x r => exact absurd (h x (by simp)) (by omega)
  | N + 1, l, hn, h => by
    have h1 := php N (l.erase N) (hn.erase N) (fun x hx => by
      have := h x (List.mem_of_mem_erase hx)
      have hne : x ≠ N := (List.Nodup.mem_erase_iff hn).1 hx |>.1
      omega)
    have h2 := List.length_erase (a := N) (l := l)
    split at h2 <;> omega
theorem MapF.tight {w : World} {b n : Nat} {m : Nat → Option Value} (h : MapF w b n m) : MapF w b 10000 m := by
  obtain ⟨D, h, f⟩ := h
  refine ⟨D, ?_, f⟩
  obtain ⟨L, hL, hpw, hk⟩ := h.entries keyed3
  have hlen : L.length ≤ 10000 := by
    have hkeys : ∀ p ∈ L, ∃ k, k < 10000 ∧ p.1 = kL k := fun p hp => f.dom p.1 (by rw [hL]; exact List.any_eq_true.2 ⟨p, hp, WideAt.sameKey_self (hk p hp)⟩)
    have hall : ∀ L : List (Lit × DataW Value), L.Pairwise (fun p q => p.1 ≠ q.1) → (∀ p ∈ L, ∃ k, k < 10000 ∧ p.1 = kL k) → ∃ l : List Nat, l.length = L.length ∧ l.Nodup ∧ (∀ x ∈ l, x < 10000) ∧ ∀ x ∈ l, ∃ p ∈ L, p.1 = kL x := by
      intro L
      induction L with
      | nil => intro _ _; exact ⟨[], rfl, by simp, by simp, by simp⟩
      | cons p r ih =>
        intro hp hk
        rw [List.pairwise_cons] at hp
        obtain ⟨l, h1, h2, h3, h4⟩ := ih hp.2 (fun q hq => hk q (List.mem_cons_of_mem _ hq))
        obtain ⟨k, hk1, hk2⟩ := hk p (by simp)
        refine ⟨k :: l, by simp [h1], ?_, ?_, ?_⟩
        · rw [List.nodup_cons]
          refine ⟨fun hm => ?_, h2⟩
          obtain ⟨q, hq, hqe⟩ := h4 k hm
          exact hp.1 q hq (by rw [hk2, hqe])
        · intro x hx
          rcases List.mem_cons.1 hx with rfl | hx
          · exact hk1
          · exact h3 x hx
        · intro x hx
          rcases List.mem_cons.1 hx with rfl | hx
          · exact ⟨p, by simp, hk2⟩
          · obtain ⟨q, hq, hqe⟩ := h4 x hx
            exact ⟨q, List.mem_cons_of_mem _ hq, hqe⟩
    obtain ⟨l, h1, h2, h3, _⟩ := hall L hpw hkeys
    rw [← h1]
    exact php 10000 l h2 h3
  obtain ⟨es, clock, hb, F, hs, rfl⟩ := h
  refine ⟨es, clock, hb, F, ?_, rfl⟩
  have e1 : ((es.toList.map (WideElems.rg Yba.prog 3 RV)).foldr DataW.insert []) = L := by injection hL
  have e2 := congrArg List.length e1
  rw [length_sorted] at e2
  simp at e2
  omega
/-- Going over a map. -/
def RngF (w : World) (b r n : Nat) (m : Nat → Option Value) (left : Nat → Bool) (cnt : Nat) : Prop := ∃ D lf, w.ranges Yba.prog 3 RV b r n D lf cnt ∧ IsFn D m ∧ (∀ k, k < 10000 → lf (kL k) = left k) ∧ ∀ kl, lf kl = true → ∃ k, k < 10000 ∧ kl = kL k
theorem RngF.fr {S : List Nat} {w w' : World} {b r n : Nat} {m : Nat → Option Value} {left : Nat → Bool} {cnt : Nat} (h : RngF w b r n m left cnt) (hf : Fr S w w') (hb : b ∉ S) (hr : r ∉ S) : RngF w' b r n m left cnt := by
  obtain ⟨D, lf, h, f, g, d⟩ := h
  have hlt := h.lt
  have hlb := h.owns.lt
  obtain ⟨es, clock, since, seen, c0, h1, h2, h3, h4, h5, h6⟩ := h
  exact ⟨D, lf, ⟨es, clock, since, seen, c0, (hf.block b hlb hb).trans h1, h2, h3, h4, (hf.block r hlt hr).trans h5, h6⟩, f, g, d⟩
theorem MapF.range {t e : TypeId} {w : World} {b n : Nat} {m : Nat → Option Value} (h : MapF w b n m) (ht : Yba.prog.underlying t = some (.map 3 e)) :
    ∃ w' cnt, (Instr.range t (.map (some b))).run Yba.prog w = .ok (.pointer (some ⟨w.heap.size, 0, none⟩)) w' ∧ RngF w' b w.heap.size n m (fun k => (m k).isSome) cnt ∧ Fr [] w w' ∧ w'.heap.size = w.heap.size + 1 := by
  obtain ⟨D, h, f⟩ := h
  obtain ⟨w', h1, h2, h3, h4⟩ := h.range keyed3 ht
  exact ⟨w', _, h1, ⟨D, _, h2, f, f.has, f.dom⟩, ⟨h3.os, h3.tape, h3.output, h3.size, fun k hk _ => h3.block k hk (by simp)⟩, h4⟩
theorem RngF.next {w : World} {b r n : Nat} {m : Nat → Option Value} {left : Nat → Bool} {cnt : Nat} (h : RngF w b r n m left cnt) (ty : TypeId) :
    ((∀ k, k < 10000 → left k = false) ∧ (Instr.next (.pointer (some ⟨r, 0, none⟩)) false ty).run Yba.prog w = .ok (.tuple #[.bool false]) w) ∨
    ∃ k v w' cnt', k < 10000 ∧ left k = true ∧ ((m k).isSome = true → m k = some v) ∧ (Instr.next (.pointer (some ⟨r, 0, none⟩)) false ty).run Yba.prog w = .ok (.tuple #[.bool true, .int .i64 (k : Int), v]) w' ∧
      RngF w' b r n m (fun x => left x && decide (x ≠ k)) cnt' ∧ cnt' < cnt ∧ Fr [r] w w' ∧ w'.heap.size = w.heap.size ∧ (Instr.entry (.pointer (some ⟨r, 0, none⟩))).run Yba.prog w' = .ok (.tuple #[.int .i64 (k : Int), v]) w' := by
  obtain ⟨D, lf, h, f, g, d⟩ := h
  rcases h.next keyed3 ty with ⟨_, h1, h2⟩ | ⟨key, v, kl, y, w', cnt', k1, k2, k3, k4, k5, k6, k7, k8, k9, k10⟩
  · exact Or.inl ⟨fun k hk => by rw [← g k hk]; exact h1 _, h2⟩
  · obtain ⟨k, hk, rfl⟩ := d kl k2
    have hkey : key = .int .i64 (k : Int) := keyed3.inj k1 (key3 hk)
    subst hkey
    refine Or.inr ⟨k, v, w', cnt', hk, by rw [← g k hk]; exact k2, fun hm => ?_, k5, ⟨D, _, k6, f, fun x hx => ?_, fun z hz => ?_⟩, k7, Fr.of_grown k8, k9, k10⟩
    · cases hmk : m k with
      | none => rw [hmk] at hm; cases hm
      | some u =>
        have h1 := f.at_ k u hk hmk .nil
        rw [k4 .nil] at h1
        simp only [RV, Option.some.injEq] at k3
        rw [← k3] at h1
        simp at h1
        rw [h1]
    · show (lf (kL x) && !(kL x).sameKey (kL k)) = _
      rw [g x hx]
      by_cases e : x = k
      · subst e; rw [WideAt.sameKey_self (kL_key hk)]; simp
      · have : (kL x).sameKey (kL k) = false := by
          cases hs : (kL x).sameKey (kL k)
          · rfl
          · exact absurd (kL_inj (WideAt.sameKey_eq hs)) e
        rw [this]; simp [e]
    · simp only [Bool.and_eq_true] at hz
      exact d z hz.1
end Go.Proofs.Ybulkdpsg

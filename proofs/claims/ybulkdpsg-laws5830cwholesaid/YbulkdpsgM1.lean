/- S5830C: maps with small integer keys, whatever their elements. -/
import Derived.Test.YbulkdpsgD8
import Derived.Maps.OwnSet
import Derived.Maps.Range
import Derived.Maps.RangeWalk
namespace Go.Proofs.Ybulkdpsg
open Go Go.RowKit Go.Proofs Go.Lib
set_option linter.unusedVariables false
set_option linter.unusedSimpArgs false

def RV (v : Value) : Option (DataW Value × List MemPlace) := some (.held v, [])
def kL (k : Nat) : Lit := .int .i64 (k : Int)
theorem int3 : Yba.prog.underlying 3 = some (.int .i64) := by kernel_rfl
theorem keyed3 : Maps.Keyed Yba.prog 3 := Maps.int_keyed int3
theorem kwf {k : Nat} (h : k < 10000) : (Lit.int .i64 (k : Int)).wf = true := by
  have h1 : IntKind.i64.min ≤ (k : Int) := by have : IntKind.i64.min = -9223372036854775808 := by decide
                                              omega
  have h2 : (k : Int) ≤ IntKind.i64.max := by have : IntKind.i64.max = 9223372036854775807 := by decide
                                              omega
  simp [Lit.wf, h1, h2]
  omega
theorem key3 {k : Nat} (h : k < 10000) : keyOf Yba.prog 3 (.int .i64 (k : Int)) = some (kL k) := Maps.keyOf_int_mk int3 (kwf h)
theorem kL_inj {a b : Nat} (h : kL a = kL b) : a = b := by simp [kL] at h; omega
theorem kL_key {k : Nat} (h : k < 10000) : WideAt.IsKeyLit (kL k) := keyed3.key (key3 h)

/-- The datum D is the function m. -/
structure IsFn (D : DataW Value) (m : Nat → Option Value) : Prop where
  has : ∀ k, k < 10000 → Maps.has D (kL k) = (m k).isSome
  at_ : ∀ k v, k < 10000 → m k = some v → ∀ z, D.atKey (kL k) z = .held v
  dom : ∀ kl, Maps.has D kl = true → ∃ k, k < 10000 ∧ kl = kL k
/-- Block b is a map: the function m. -/
def MapF (w : World) (b n : Nat) (m : Nat → Option Value) : Prop := ∃ D, w.ownsMap Yba.prog 3 RV b n D ∧ IsFn D m
theorem MapF.lt {w : World} {b n : Nat} {m : Nat → Option Value} (h : MapF w b n m) : b < w.heap.size := by obtain ⟨D, h, _⟩ := h; exact h.lt
theorem MapF.mono {w : World} {b n n' : Nat} {m : Nat → Option Value} (h : MapF w b n m) (hn : n ≤ n') : MapF w b n' m := by obtain ⟨D, h, k⟩ := h; exact ⟨D, h.mono hn, k⟩
theorem MapF.fr {S : List Nat} {w w' : World} {b n : Nat} {m : Nat → Option Value} (h : MapF w b n m) (hf : Fr S w w') (hb : b ∉ S) : MapF w' b n m := by
  obtain ⟨D, h, k⟩ := h
  have hlt := h.lt
  obtain ⟨es, clock, h1, h2⟩ := h
  exact ⟨D, ⟨es, clock, (hf.block b hlt hb).trans h1, h2⟩, k⟩
theorem MapF.made (w : World) : MapF (w.alloc (.map #[] 0)) w.heap.size 0 (fun _ => none) :=
  ⟨.map [], World.ownsMap_made w Yba.prog 3 RV, ⟨fun k _ => rfl, fun k v _ h => (by cases h), fun kl h => (by simp [Maps.has] at h)⟩⟩
theorem MapF.look {t e : TypeId} {w : World} {b n : Nat} {m : Nat → Option Value} (h : MapF w b n m) (ht : Yba.prog.underlying t = some (.map 3 e)) {z : Value} (hz : (zeroValue e).run Yba.prog w = .ok z w) {k : Nat} (hk : k < 10000) :
    (Instr.lookup t (.map (some b)) (.int .i64 (k : Int)) true).run Yba.prog w = .ok (.tuple #[(m k).getD z, .bool (m k).isSome]) w := by
  obtain ⟨D, h, f⟩ := h
  obtain ⟨v, ps, hr, hv⟩ := h.look_ok keyed3 ht hz (zd := .held z) (zp := []) rfl (key3 hk)
  rw [hr, f.has k hk]
  have : v = (m k).getD z := by
    simp only [RV, Option.some.injEq, Prod.mk.injEq] at hv
    have hv := hv.1
    cases hm : m k with
    | none =>
      have hh := f.has k hk
      rw [hm] at hh
      rw [Maps.atKey_of_not_has hh] at hv
      simpa using hv
    | some u => rw [f.at_ k u hk hm] at hv; simpa using hv
  rw [this]
theorem MapF.look1 {t e : TypeId} {w : World} {b n : Nat} {m : Nat → Option Value} (h : MapF w b n m) (ht : Yba.prog.underlying t = some (.map 3 e)) {z : Value} (hz : (zeroValue e).run Yba.prog w = .ok z w) {k : Nat} (hk : k < 10000) :
    (Instr.lookup t (.map (some b)) (.int .i64 (k : Int)) false).run Yba.prog w = .ok ((m k).getD z) w := by
  obtain ⟨D, h, f⟩ := h
  obtain ⟨v, ps, hr, hv⟩ := h.lookup keyed3 ht hz (zd := .held z) (zp := []) rfl (key3 hk)
  rw [hr]
  have : v = (m k).getD z := by
    simp only [RV, Option.some.injEq, Prod.mk.injEq] at hv
    have hv := hv.1
    cases hm : m k with
    | none =>
      have hh := f.has k hk
      rw [hm] at hh
      rw [Maps.atKey_of_not_has hh] at hv
      simpa using hv
    | some u => rw [f.at_ k u hk hm] at hv; simpa using hv
  rw [this]
theorem MapF.store {t e : TypeId} {w : World} {b n : Nat} {m : Nat → Option Value} (h : MapF w b n m) (ht : Yba.prog.underlying t = some (.map 3 e)) (hn : n < 1000000) {k : Nat} (hk : k < 10000) (v : Value) :
    ∃ w', (Instr.mapUpdate t (.map (some b)) (.int .i64 (k : Int)) v).run Yba.prog w = .ok () w' ∧ MapF w' b (n + 1) (fun j => if j = k then some v else m j) ∧ Fr [b] w w' ∧ w'.heap.size = w.heap.size := by
  obtain ⟨D, h, f⟩ := h
  obtain ⟨w', hr, h', ht'⟩ := h.store keyed3 ht (by simp only [maxLen]; omega) (key3 hk) (d := .held v) (ps := []) rfl
  have hD := h.isMap
  refine ⟨w', hr, ⟨_, h', ⟨fun j hj => ?_, fun j u hj hu z => ?_, fun kl hkl => ?_⟩⟩, Fr.of_grown ht'.grown, ?_⟩
  · by_cases e : j = k
    · subst e; rw [if_pos rfl, Maps.has_put_same hD (kL_key hk)]; rfl
    · rw [if_neg e, Maps.has_put_other (fun h => e (kL_inj h))]; exact f.has j hj
  · by_cases e : j = k
    · subst e; rw [if_pos rfl] at hu; cases hu; exact Maps.atKey_put_same hD (kL_key hk) _ _
    · rw [if_neg e] at hu; rw [Maps.atKey_put_other (fun h => e (kL_inj h))]; exact f.at_ j u hj hu z
  · by_cases e : kl = kL k
    · exact ⟨k, hk, e⟩
    · rw [Maps.has_put_other e] at hkl; exact f.dom kl hkl
  · obtain ⟨es, clock, es', clock', _, rfl⟩ := ht'
    show (w.heap.setIfInBounds b _).size = _
    simp
theorem MapF.drop {t e : TypeId} {w : World} {b n : Nat} {m : Nat → Option Value} (h : MapF w b n m) (ht : Yba.prog.underlying t = some (.map 3 e)) {k : Nat} (hk : k < 10000) (ty : TypeId) :
    ∃ w', (Builtin.delete_ #[t, 3] ty #[.map (some b), .int .i64 (k : Int)]).run Yba.prog w = .ok (.tuple #[]) w' ∧ MapF w' b n (fun j => if j = k then none else m j) ∧ Fr [b] w w' ∧ w'.heap.size = w.heap.size := by
  obtain ⟨D, h, f⟩ := h
  obtain ⟨w', hr, h', ht'⟩ := h.drop keyed3 ht (key3 hk) ty
  refine ⟨w', hr, ⟨_, h', ⟨fun j hj => ?_, fun j u hj hu z => ?_, fun kl hkl => ?_⟩⟩, Fr.of_grown ht'.grown, ?_⟩
  · by_cases e : j = k
    · subst e; rw [if_pos rfl, Maps.has_del_same]; rfl
    · rw [if_neg e, Maps.has_del_other (fun h => e (kL_inj h))]; exact f.has j hj
  · by_cases e : j = k
    · subst e; rw [if_pos rfl] at hu; cases hu
    · rw [if_neg e] at hu; rw [Maps.atKey_del_other (fun h => e (kL_inj h))]; exact f.at_ j u hj hu z
  · by_cases e : kl = kL k
    · exact ⟨k, hk, e⟩
    · rw [Maps.has_del_other e] at hkl; exact f.dom kl hkl
  · obtain ⟨es, clock, es', clock', _, rfl⟩ := ht'
    show (w.heap.setIfInBounds b _).size = _
    simp
end Go.Proofs.Ybulkdpsg

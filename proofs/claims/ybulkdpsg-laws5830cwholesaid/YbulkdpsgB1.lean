/- S5830C: byArrival: plain part. -/
import Derived.Test.YbulkdpsgM2
import Derived.Test.YbulkdpsgN0
import Derived.Test.YbulkdpsgC11
import Derived.Test.YbulkdpsgQ2
import Derived.Test.YbulkdpsgW6
import Derived.StringKeys
namespace Go.Proofs.Ybulkdpsg
open Go Go.RowKit Go.Sort Go.Proofs Go.Lib
set_option linter.unusedVariables false
set_option linter.unusedSimpArgs false

def kS (k : Nat) : Lit := .string (keyB k).data.toList
theorem str9 : Yba.prog.underlying 9 = some .string := by kernel_rfl
theorem keyed9 : Maps.Keyed Yba.prog 9 := Maps.string_keyed str9
theorem keyB_size (k : Nat) : (keyB k).size ≤ 4 := by
  match k with
  | 0 => decide
  | 1 => decide
  | 2 => decide
  | 3 => decide
  | n + 4 => exact (by decide : (⟨#[100, 97, 116, 97]⟩ : ByteArray).size ≤ 4)
theorem keyS (k : Nat) : keyOf Yba.prog 9 (.string (keyB k)) = some (kS k) := WideMaps.keyOf_string_mk str9 (by have := keyB_size k; simp only [maxLen]; omega)
theorem kS_inj {a b : Nat} (ha : a < 5) (hb : b < 5) (h : kS a = kS b) : a = b := by
  have hd : ∀ a : Fin 5, ∀ b : Fin 5, (keyB a).data.toList = (keyB b).data.toList → a = b := by decide
  have h' : (keyB a).data.toList = (keyB b).data.toList := by simp only [kS, Lit.string.injEq] at h; exact h
  have := hd ⟨a, ha⟩ ⟨b, hb⟩ h'
  simpa using this
def MapS (w : World) (b n : Nat) (m : Nat → Option Value) : Prop := ∃ D, w.ownsMap Yba.prog 9 RV b n D ∧ (∀ k, k < 5 → Maps.has D (kS k) = (m k).isSome) ∧ ∀ k v, k < 5 → m k = some v → ∀ z, D.atKey (kS k) z = .held v
theorem MapS.fr {S : List Nat} {w w' : World} {b n : Nat} {m : Nat → Option Value} (h : MapS w b n m) (hf : Fr S w w') (hb : b ∉ S) : MapS w' b n m := by
  obtain ⟨D, h, k⟩ := h
  have hlt := h.lt
  obtain ⟨es, clock, h1, h2⟩ := h
  exact ⟨D, ⟨es, clock, (hf.block b hlt hb).trans h1, h2⟩, k⟩
theorem MapS.lt {w : World} {b n : Nat} {m : Nat → Option Value} (h : MapS w b n m) : b < w.heap.size := by obtain ⟨D, h, _⟩ := h; exact h.lt
theorem MapS.made (w : World) : MapS (w.alloc (.map #[] 0)) w.heap.size 0 (fun _ => none) :=
  ⟨.map [], World.ownsMap_made w Yba.prog 9 RV, fun k _ => rfl, fun k v _ h => (by cases h)⟩
theorem MapS.look {t e : TypeId} {w : World} {b n : Nat} {m : Nat → Option Value} (h : MapS w b n m) (ht : Yba.prog.underlying t = some (.map 9 e)) {z : Value} (hz : (zeroValue e).run Yba.prog w = .ok z w) {k : Nat} (hk : k < 5) :
    (Instr.lookup t (.map (some b)) (.string (keyB k)) true).run Yba.prog w = .ok (.tuple #[(m k).getD z, .bool (m k).isSome]) w := by
  obtain ⟨D, h, f1, f2⟩ := h
  obtain ⟨v, ps, hr, hv⟩ := h.look_ok keyed9 ht hz (zd := .held z) (zp := []) rfl (keyS k)
  rw [hr, f1 k hk]
  have : v = (m k).getD z := by
    simp only [RV, Option.some.injEq, Prod.mk.injEq] at hv
    have hv := hv.1
    cases hm : m k with
    | none =>
      have hh := f1 k hk
      rw [hm] at hh
      rw [Maps.atKey_of_not_has hh] at hv
      simpa using hv
    | some u => rw [f2 k u hk hm] at hv; simpa using hv
  rw [this]
theorem MapS.store {t e : TypeId} {w : World} {b n : Nat} {m : Nat → Option Value} (h : MapS w b n m) (ht : Yba.prog.underlying t = some (.map 9 e)) (hn : n < 1000000) {k : Nat} (hk : k < 5) (v : Value) :
    ∃ w', (Instr.mapUpdate t (.map (some b)) (.string (keyB k)) v).run Yba.prog w = .ok () w' ∧ MapS w' b (n + 1) (fun j => if j = k then some v else m j) ∧ Fr [b] w w' ∧ w'.heap.size = w.heap.size := by
  obtain ⟨D, h, f1, f2⟩ := h
  obtain ⟨w', hr, h', ht'⟩ := h.store keyed9 ht (by simp only [maxLen]; omega) (keyS k) (d := .held v) (ps := []) rfl
  have hD := h.isMap
  have hkl : WideAt.IsKeyLit (kS k) := keyed9.key (keyS k)
  refine ⟨w', hr, ⟨_, h', fun j hj => ?_, fun j u hj hu z => ?_⟩, Fr.of_grown ht'.grown, ?_⟩
  · show _ = (if j = k then some v else m j).isSome
    by_cases e : j = k
    · subst e; rw [if_pos rfl, Maps.has_put_same hD hkl]; rfl
    · rw [if_neg e, Maps.has_put_other (fun h => e (kS_inj hj hk h))]; exact f1 j hj
  · change (if j = k then some v else m j) = some u at hu
    by_cases e : j = k
    · subst e; rw [if_pos rfl] at hu; cases hu; exact Maps.atKey_put_same hD hkl _ _
    · rw [if_neg e] at hu; rw [Maps.atKey_put_other (fun h => e (kS_inj hj hk h))]; exact f2 j u hj hu z
  · obtain ⟨es, clock, es', clock', _, rfl⟩ := ht'
    show (w.heap.setIfInBounds b _).size = _
    simp
/-- The keys, each once, in the order in which they come. -/
def ksOf (key : Nat → Nat) : Nat → List Nat
  | 0 => []
  | i + 1 => if key i ∈ ksOf key i then ksOf key i else ksOf key i ++ [key i]
theorem ksOf_mem (key : Nat → Nat) (k : Nat) : ∀ i, k ∈ ksOf key i ↔ ∃ p, p < i ∧ key p = k
  | 0 => by simp [ksOf]
  | i + 1 => by
    have ih := ksOf_mem key k i
    unfold ksOf
    split
    · rename_i h
      rw [ih]
      constructor
      · rintro ⟨p, h1, h2⟩; exact ⟨p, by omega, h2⟩
      · rintro ⟨p, h1, h2⟩
        by_cases e : p = i
        · subst e; rw [h2] at h; exact ih.1 h
        · exact ⟨p, by omega, h2⟩
    · rw [List.mem_append, ih]
      constructor
      · rintro (⟨p, h1, h2⟩ | h)
        · exact ⟨p, by omega, h2⟩
        · simp at h; exact ⟨i, by omega, h.symm⟩
      · rintro ⟨p, h1, h2⟩
        by_cases e : p = i
        · subst e; right; simp [h2]
        · left; exact ⟨p, by omega, h2⟩
theorem ksOf_nodup (key : Nat → Nat) : ∀ i, (ksOf key i).Nodup
  | 0 => by simp [ksOf]
  | i + 1 => by
    have ih := ksOf_nodup key i
    unfold ksOf
    split
    · exact ih
    · rename_i h
      rw [List.nodup_append]
      refine ⟨ih, by simp, fun a ha b hb => ?_⟩
      simp at hb
      subst hb
      exact fun e => h (e ▸ ha)
theorem ksOf_len (key : Nat → Nat) (n i : Nat) (hk : ∀ p, p < n → key p < 5) (hi : i ≤ n) : (ksOf key i).length ≤ 5 :=
  nodup_len _ (ksOf_nodup key i) (fun x hx => by obtain ⟨p, h1, h2⟩ := (ksOf_mem key x i).1 hx; rw [← h2]; exact hk p (by omega))
theorem idx_app {k : Nat} : ∀ {l : List Nat}, k ∈ l → ∀ r, (l ++ r).idxOf k = l.idxOf k
  | [], h, _ => by simp at h
  | x :: l, h, r => by
    by_cases e : x = k
    · subst e; simp [List.idxOf_cons]
    · have hk : k ∈ l := by rcases List.mem_cons.1 h with h | h
                            · exact absurd h.symm e
                            · exact h
      have ih := idx_app hk r
      simp only [List.cons_append, List.idxOf_cons, ih]
theorem idx_new {k : Nat} : ∀ {l : List Nat}, k ∉ l → (l ++ [k]).idxOf k = l.length
  | [], _ => by simp [List.idxOf_cons]
  | x :: l, h => by
    have h1 : x ≠ k := fun e => h (by simp [e])
    have h2 : k ∉ l := fun e => h (List.mem_cons_of_mem _ e)
    have ih := idx_new h2
    simp only [List.cons_append, List.idxOf_cons, ih, List.length_cons]
    rw [beq_false_of_ne h1]; simp
theorem ksOf_idx (key : Nat → Nat) {k : Nat} : ∀ {i j : Nat}, i ≤ j → k ∈ ksOf key i → (ksOf key j).idxOf k = (ksOf key i).idxOf k := by
  intro i j h hk
  induction j with
  | zero => rw [show i = 0 by omega]
  | succ j ih =>
    by_cases e : i = j + 1
    · rw [e]
    · have ih := ih (by omega)
      have hj : k ∈ ksOf key j := by obtain ⟨p, h1, h2⟩ := (ksOf_mem key k i).1 hk; exact (ksOf_mem key k j).2 ⟨p, by omega, h2⟩
      rw [← ih]
      conv => lhs; unfold ksOf
      split
      · rfl
      · exact idx_app hj _
def fT (job key dur arr : Nat → Nat) (n i : Nat) : Tk := ⟨(i : Int), (job i : Int), ((ksOf key n).idxOf (key i) : Nat), (dur i : Int), (arr i : Int)⟩
def rowT (f : Nat → Tk) (i c : Nat) : Value := if c / 5 < i then (encT (f (c / 5)))[c % 5]! else .int .i64 0
theorem under102 : Yba.prog.underlying 102 = some (.map 9 3) := by kernel_rfl
theorem zero3 (w : World) : (zeroValue 3).run Yba.prog w = .ok (.int .i64 0) w := by kernel_rfl
theorem agg54 (w : World) : (isAgg 54).run Yba.prog w = .ok true w := by kernel_rfl
theorem size54 (w : World) : (Go.sizeOf 54).run Yba.prog w = .ok 4 w := by kernel_rfl
/-- The tasks up to i are listed. -/
structure BaL (w wr : World) (n bt bm : Nat) (job key dur arr : Nat → Nat) (i : Nat) (vk : Value) : Prop where
  rt : wr.rowIs bt 105 (n * 5) (rowT (fT job key dur arr n) i)
  mp : MapS wr bm (ksOf key i).length (fun k => if k ∈ ksOf key i then some (.int .i64 (((ksOf key i).idxOf k : Nat) : Int)) else none)
  kv : wr.ownsRow w.heap.size 9 1 vk (ksOf key i).length ((ksOf key i).map fun k => .string (keyB k))
  fr : Fr [] w wr
  n1 : w.heap.size ≤ bt ∧ w.heap.size ≤ bm
  n2 : bt ≠ bm
  n3 : ∀ b, vk.ownBlock = some b → w.heap.size ≤ b ∧ b ≠ bt ∧ b ≠ bm
theorem BaL.vlt {w wr : World} {n bt bm : Nat} {job key dur arr : Nat → Nat} {i : Nat} {vk : Value} (h : BaL w wr n bt bm job key dur arr i vk) : ∀ b, vk.ownBlock = some b → b < wr.heap.size := fun b hb => (h.kv.lt b hb).2
theorem rowT_step {w : World} {bt n i : Nat} {f : Nat → Tk} (h : w.rowIs bt 105 (n * 5) (rowT f i)) (hi : i < n) :
    (((((w.setCell ⟨bt, i * 5, none⟩ (.int .i64 (f i).row)).setCell ⟨bt, i * 5 + 1, none⟩ (.int .i64 (f i).job)).setCell ⟨bt, i * 5 + 2, none⟩ (.int .i64 (f i).key)).setCell ⟨bt, i * 5 + 3, none⟩ (.int .i64 (f i).dur)).setCell ⟨bt, i * 5 + 4, none⟩ (.int .i64 (f i).arr)).rowIs bt 105 (n * 5) (rowT f (i + 1)) := by
  refine (((((h.set (i * 5) _).set (i * 5 + 1) _).set (i * 5 + 2) _).set (i * 5 + 3) _).set (i * 5 + 4) _).congr fun c hc => ?_
  unfold rowT
  by_cases e4 : c = i * 5 + 4
  · subst e4; rw [if_pos rfl, if_pos (by omega), show (i * 5 + 4) / 5 = i by omega, show (i * 5 + 4) % 5 = 4 by omega]; rfl
  · rw [if_neg e4]
    by_cases e3 : c = i * 5 + 3
    · subst e3; rw [if_pos rfl, if_pos (by omega), show (i * 5 + 3) / 5 = i by omega, show (i * 5 + 3) % 5 = 3 by omega]; rfl
    · rw [if_neg e3]
      by_cases e2 : c = i * 5 + 2
      · subst e2; rw [if_pos rfl, if_pos (by omega), show (i * 5 + 2) / 5 = i by omega, show (i * 5 + 2) % 5 = 2 by omega]; rfl
      · rw [if_neg e2]
        by_cases e1 : c = i * 5 + 1
        · subst e1; rw [if_pos rfl, if_pos (by omega), show (i * 5 + 1) / 5 = i by omega, show (i * 5 + 1) % 5 = 1 by omega]; rfl
        · rw [if_neg e1]
          by_cases e0 : c = i * 5
          · subst e0; rw [if_pos rfl, if_pos (by omega), show (i * 5) / 5 = i by omega, show (i * 5) % 5 = 0 by omega]; rfl
          · rw [if_neg e0]
            by_cases e : c / 5 < i
            · rw [if_pos e, if_pos (by omega)]
            · rw [if_neg e, if_neg (by omega)]
theorem mk86 (n : Nat) (hn : n ≤ 5000) (w : World) : (Instr.makeSlice 86 (.int .i64 (n : Int)) (.int .i64 (n : Int))).run Yba.prog w = .ok (.slice (some ⟨w.heap.size, 0, none⟩) n n) (w.alloc (.cells (madeCells #[.int .i64 0, .int .i64 0, .int .i64 0, .int .i64 0, .int .i64 0] (n * 5)) 105)) := run_makeK 86 105 _ 5 40 Yba.underlying86 i105 n (by omega) (by omega) w
theorem BaL.start (w : World) (n : Nat) (job key dur arr : Nat → Nat) : BaL w ((w.alloc (.cells (madeCells #[.int .i64 0, .int .i64 0, .int .i64 0, .int .i64 0, .int .i64 0] (n * 5)) 105)).alloc (.map #[] 0)) n w.heap.size (w.heap.size + 1) job key dur arr 0 (.slice none 0 0) := by
  have r1 := rowIs_madeK w #[.int .i64 0, .int .i64 0, .int .i64 0, .int .i64 0, .int .i64 0] (n * 5) 105
  have m1 := MapS.made (w.alloc (.cells (madeCells #[.int .i64 0, .int .i64 0, .int .i64 0, .int .i64 0, .int .i64 0] (n * 5)) 105))
  rw [show (w.alloc (.cells (madeCells #[.int .i64 0, .int .i64 0, .int .i64 0, .int .i64 0, .int .i64 0] (n * 5)) 105)).heap.size = w.heap.size + 1 by simp] at m1
  refine ⟨(r1.alloc _).congr fun c hc => ?_, m1, ⟨by simp [ksOf], Or.inl ⟨rfl, by simp [ksOf]⟩⟩, (Fr.alloc _ _ _).trans (Fr.alloc _ _ _), ⟨by omega, by omega⟩, by omega, fun b hb => by simp [Value.ownBlock] at hb⟩
  unfold rowT
  rw [if_neg (by omega)]
  have : c % 5 < 5 := Nat.mod_lt _ (by omega)
  rcases (show c % 5 = 0 ∨ c % 5 = 1 ∨ c % 5 = 2 ∨ c % 5 = 3 ∨ c % 5 = 4 by omega) with e | e | e | e | e <;> (show _ = _; simp [e])
theorem BaL.put {w W : World} {n bt bm : Nat} {job key dur arr : Nat → Nat} {i : Nat} {vk : Value} (rt : W.rowIs bt 105 (n * 5) (rowT (fT job key dur arr n) i)) (hi : i < n)
    (mp : MapS W bm (ksOf key (i + 1)).length (fun k => if k ∈ ksOf key (i + 1) then some (.int .i64 (((ksOf key (i + 1)).idxOf k : Nat) : Int)) else none)) (kv : W.ownsRow w.heap.size 9 1 vk (ksOf key (i + 1)).length ((ksOf key (i + 1)).map fun k => .string (keyB k))) (fr : Fr [] w W)
    (n1 : w.heap.size ≤ bt ∧ w.heap.size ≤ bm) (n2 : bt ≠ bm) (n3 : ∀ b, vk.ownBlock = some b → w.heap.size ≤ b ∧ b ≠ bt ∧ b ≠ bm) {x : Int} (hx : x = ((ksOf key n).idxOf (key i) : Nat)) :
    BaL w (((((W.setCell ⟨bt, i * 5, none⟩ (.int .i64 (i : Int))).setCell ⟨bt, i * 5 + 1, none⟩ (.int .i64 (job i : Int))).setCell ⟨bt, i * 5 + 2, none⟩ (.int .i64 x)).setCell ⟨bt, i * 5 + 3, none⟩ (.int .i64 (dur i : Int))).setCell ⟨bt, i * 5 + 4, none⟩ (.int .i64 (arr i : Int))) n bt bm job key dur arr (i + 1) vk := by
  subst hx
  have hr := rowT_step rt hi
  have f : Fr [bt] W (((((W.setCell ⟨bt, i * 5, none⟩ (.int .i64 (i : Int))).setCell ⟨bt, i * 5 + 1, none⟩ (.int .i64 (job i : Int))).setCell ⟨bt, i * 5 + 2, none⟩ (.int .i64 (((ksOf key n).idxOf (key i) : Nat) : Int))).setCell ⟨bt, i * 5 + 3, none⟩ (.int .i64 (dur i : Int))).setCell ⟨bt, i * 5 + 4, none⟩ (.int .i64 (arr i : Int))) := ((((Fr.setCell _ _ _ (by simp)).trans (Fr.setCell _ _ _ (by simp))).trans (Fr.setCell _ _ _ (by simp))).trans (Fr.setCell _ _ _ (by simp))).trans (Fr.setCell _ _ _ (by simp))
  exact ⟨hr, mp.fr f (by simp; omega), own_frW kv f (fun b hb => by simp; exact (n3 b hb).2.1), ⟨f.os.trans fr.os, f.tape.trans fr.tape, f.output.trans fr.output, Nat.le_trans fr.size f.size, fun k hk _ => by
    have := fr.size
    rw [f.block k (by omega) (by simp; omega), fr.block k hk (by simp)]⟩, n1, n2, n3⟩
theorem fr_new {wr W4 W5 : World} {zz : Nat} (h4 : Fr [] wr W4) (h5 : Fr [zz] W4 W5) (hz : wr.heap.size ≤ zz) : Fr [] wr W5 :=
  ⟨h5.os.trans h4.os, h5.tape.trans h4.tape, h5.output.trans h4.output, Nat.le_trans h4.size h5.size, fun k hk _ => by
    have := h4.size
    rw [h5.block k (by omega) (by simp; omega), h4.block k hk (by simp)]⟩
end Go.Proofs.Ybulkdpsg

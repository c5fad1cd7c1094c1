/- S5830C: (*workers).start: the least recent key is forgotten. -/
import Derived.Test.YbulkdpsgW6
namespace Go.Proofs.Ybulkdpsg
open Go Go.RowKit Go.Proofs Go.Lib
set_option linter.unusedVariables false
set_option linter.unusedSimpArgs false

theorem own_set {w : World} {base g n cap i : Nat} {e : TypeId} {xs : List Value} (h : w.ownsRow base e 1 (slN g n cap) n xs) (hi : i < n) (x : Value) : (w.setCell ⟨g, i, none⟩ x).ownsRow base e 1 (slN g n cap) n (xs.set i x) := by
  refine ⟨by simp; have := h.1; omega, ?_⟩
  rcases h.2 with ⟨h1, _⟩ | ⟨g', cap', cur, hv, hb, hg, hc, hm, hs, ht⟩
  · cases h1
  · unfold slN at hv
    simp only [Value.slice.injEq, Option.some.injEq, Addr.mk.injEq, and_true, true_and] at hv
    obtain ⟨rfl, rfl⟩ := hv
    refine Or.inr ⟨g, cap, cur.setIfInBounds i x, rfl, hb, by simp [World.setCell, Array.getElem?_modify, hg], hc, hm, by simpa using hs, ?_⟩
    rw [← ht]
    simp [List.take_set]
theorem own_take {w : World} {base g n m cap : Nat} {e : TypeId} {xs : List Value} (h : w.ownsRow base e 1 (slN g n cap) n xs) (hm : m ≤ n) : w.ownsRow base e 1 (slN g m cap) m (xs.take m) := by
  refine ⟨by have := h.1; simp; omega, ?_⟩
  rcases h.2 with ⟨h1, _⟩ | ⟨g', cap', cur, hv, hb, hg, hc, hmx, hs, ht⟩
  · cases h1
  · unfold slN at hv
    simp only [Value.slice.injEq, Option.some.injEq, Addr.mk.injEq, and_true, true_and] at hv
    obtain ⟨rfl, rfl⟩ := hv
    refine Or.inr ⟨g, cap, cur, rfl, hb, hg, by omega, hmx, hs, ?_⟩
    rw [← ht]
    simp [List.take_take, Nat.min_eq_left hm]
/-- The i-th taken out, the last in its place. -/
def outL (l : List Nat) (i : Nat) : List Nat := (l.set i (l[l.length - 1]!)).take (l.length - 1)
theorem outL_spec {l : List Nat} (hn : l.Nodup) {i : Nat} (hi : i < l.length) : (outL l i).Nodup ∧ (∀ u, u ∈ outL l i ↔ u ∈ l ∧ u ≠ l[i]) ∧ (outL l i).length = l.length - 1 := by
  have hg : ∀ j (hj : j < l.length - 1), (outL l i)[j]? = some (if j = i then l[l.length - 1] else l[j]) := fun j hj => by
    unfold outL
    rw [List.getElem?_take_of_lt hj, List.getElem?_set]
    by_cases e : i = j
    · subst e; simp [hi, getElem!_pos l (l.length - 1) (by omega)]
    · rw [if_neg e, if_neg (fun h => e h.symm), List.getElem?_eq_getElem (by omega)]
  have hlen : (outL l i).length = l.length - 1 := by unfold outL; simp
  have hge : ∀ j (hj : j < (outL l i).length), (outL l i)[j] = if j = i then l[l.length - 1] else l[j]'(by omega) := fun j hj => by
    have := hg j (by omega)
    rw [List.getElem?_eq_getElem hj] at this
    simpa using this
  have inj : ∀ a b (ha : a < l.length) (hb : b < l.length), l[a] = l[b] → a = b := fun a b ha hb e => by
    have hp := List.pairwise_iff_getElem.1 (List.nodup_iff_pairwise_ne.1 hn)
    rcases Nat.lt_trichotomy a b with h | h | h
    · exact absurd e (hp a b ha hb h)
    · exact h
    · exact absurd e.symm (hp b a hb ha h)
  refine ⟨?_, fun u => ?_, hlen⟩
  · rw [List.nodup_iff_pairwise_ne, List.pairwise_iff_getElem]
    intro a b ha hb hab e
    rw [hge a ha, hge b hb] at e
    split at e <;> split at e
    · omega
    · have := inj _ _ _ _ e; omega
    · have := inj _ _ _ _ e; omega
    · have := inj _ _ _ _ e; omega
  · constructor
    · intro hm
      obtain ⟨j, hj, rfl⟩ := List.getElem_of_mem hm
      rw [hge j hj]
      split
      · exact ⟨List.getElem_mem _, fun e => by have := inj _ _ _ _ e; omega⟩
      · exact ⟨List.getElem_mem _, fun e => by have := inj _ _ _ _ e; omega⟩
    · rintro ⟨hm, hne⟩
      obtain ⟨j, hj, rfl⟩ := List.getElem_of_mem hm
      by_cases hl : j = l.length - 1
      · have hii : i < l.length - 1 := by
          rcases Nat.lt_or_ge i (l.length - 1) with h | h
          · exact h
          · exact absurd (by congr 1; omega) hne
        have := hge i (by omega)
        rw [if_pos rfl] at this
        subst hl
        rw [← this]; exact List.getElem_mem _
      · have := hge j (by omega)
        rw [if_neg (fun e => hne (by subst e; rfl))] at this
        rw [← this]; exact List.getElem_mem _
theorem elOf_append {es : List (Nat × Nat)} {z : Nat × Nat} (hn : ((es ++ [z]).map Prod.snd).Nodup) : (fun j => if j = z.2 then none else elOf (es ++ [z]) j) = elOf es := by
  funext j
  have hz : z.2 ∉ es.map Prod.snd := fun hm => by
    rw [List.map_append, List.nodup_append] at hn
    exact hn.2.2 z.2 hm z.2 (by simp) rfl
  by_cases h : j = z.2
  · rw [if_pos h, h, elOf_none hz]
  · rw [if_neg h]
    unfold elOf
    rw [List.find?_append]
    have : List.find? (fun e => e.2 == j) [z] = none := by simp; exact fun e => h e.symm
    rw [this]; simp
theorem ws_forget {own : Nat → Nat} {w w1 w2 w5 : World} {base nW nK sz : Nat} {pen : Int} {I : Ids} {S : WSt} (h : WS own w base nW nK sz (sz + 1) pen I S) {v : Nat} (hv : v < nW) {es : List (Nat × Nat)} {z : Nat × Nat} (hes : S.els v = es ++ [z]) (hoth : ∀ u, u < nW → u ≠ v → (S.els u).length ≤ sz) (hesl : es.length ≤ sz)
    {cm cm' : Nat → Value} (hcm : w.rowIs I.bm 120 (nW * 6) cm) (hl : ∀ v, v < nW → ListOk w I nW cm (S.ini v) v (S.els v) ∧ cm (v * 6 + 5) = .map (some (I.mp v)))
    (hD : Dl w1 I.bm (v * 6) (nW * 6) cm' es) (hkp : CmKeep (v * 6) cm cm') (hfr : Fr (I.bm :: (S.els v).map Prod.fst) w w1) (hmap : MapF w2 (I.mp v) 10000 (fun j => if j = z.2 then none else elOf (S.els v) j)) (hf2 : Fr [I.mp v] w1 w2)
    {g n cap i : Nat} (hgv : I.hv z.2 = slN g n cap) (hn : (S.hold z.2).length = n) (hi : i < n) (hiv : (S.hold z.2)[i]? = some v) (hw5 : w5 = (w2.setCell ⟨g, i, none⟩ (.int .i64 (((S.hold z.2)[n - 1]! : Nat) : Int))).setCell ⟨I.bh, z.2, none⟩ (slN g (n - 1) cap)) :
    WS own w5 base nW nK sz sz pen { I with hv := setL I.hv z.2 (slN g (n - 1) cap) } { S with els := setL S.els v es, ini := setL S.ini v true, hold := setL S.hold z.2 (outL (S.hold z.2) i) } ∧ FrT own (fun x => 1 ≤ x ∧ x < 40) w w5 := by
  have hb2 := h.b2
  have hb3 := h.b3
  have hzm : z ∈ S.els v := by rw [hes]; simp
  have hkz : z.2 < nK := h.kl v hv z hzm
  have og : own g = 30 + z.2 := h.ohv z.2 hkz g (by rw [hgv]; rfl)
  have hF0 : FrT own (fun x => x = 3 ∨ x = 20 + v) w w1 := FrT.of hfr (fun b _ hb => by
    rcases List.mem_cons.1 hb with rfl | hb
    · exact Or.inl h.om
    · obtain ⟨f, hf, rfl⟩ := List.mem_map.1 hb
      exact Or.inr (h.oel v hv f hf))
  have hF1 : FrT own (fun x => x = 10 + v) w1 w2 := FrT.of hf2 (fun b _ hb => by simp at hb; subst hb; exact h.omp v hv)
  have hF2 : FrT own (fun x => x = 4 ∨ x = 30 + z.2) w2 w5 := by
    rw [hw5]
    refine FrT.of (S := [g, I.bh]) ((Fr.setCell w2 _ _ (by simp)).trans (Fr.setCell _ _ _ (by simp))) (fun b _ hb => ?_)
    simp at hb
    rcases hb with rfl | rfl
    · exact Or.inr og
    · exact Or.inl h.oh
  have hF : FrT own (fun x => x = 3 ∨ x = 4 ∨ x = 10 + v ∨ x = 20 + v ∨ (30 ≤ x ∧ x < 40)) w w5 :=
    ((hF0.mono (fun x hx => by omega)).trans (OwnUp.refl _ _) (hF1.mono (fun x hx => by omega))).trans (OwnUp.refl _ _) (hF2.mono (fun x hx => by omega))
  have hsub : ∀ e ∈ es, e ∈ S.els v := fun e he => by rw [hes]; exact List.mem_append_left _ he
  have kn := h.kn v hv
  have ap := h.ap v hv
  have gbh : g ≠ I.bh := fun e => by rw [e, h.oh] at og; omega
  have hgmp : ∀ k b, k < nK → (I.hv k).ownBlock = some b → b ≠ I.mp v := fun k b hk hb e => by have := h.ohv k hk b hb; rw [e, h.omp v hv] at this; omega
  obtain ⟨o1, o2, o3⟩ := outL_spec (h.hs z.2 hkz).1 (show i < (S.hold z.2).length by omega)
  have hvi : (S.hold z.2)[i]'(by omega) = v := by
    have := hiv; rw [List.getElem?_eq_getElem (by omega)] at this; simpa using this
  rw [hvi] at o2
  refine ⟨WS.lmUp (h.relist hv es (setL I.hv z.2 (slN g (n - 1) cap)) (setL S.hold z.2 (outL (S.hold z.2) i)) hcm hl ((hD.frT hF1 (by rw [h.om]; omega) (fun e he => by rw [h.oel v hv e (hsub e he)]; omega)).frT hF2 (by rw [h.om]; omega) (fun e he => by rw [h.oel v hv e (hsub e he)]; omega)) hkp hF (OwnUp.refl _ _) ?_ ?_ ?_ ?_ ?_ ?_ ?_ ?_ ?_ ?_) (fun u hu' => ?_) (by omega), hF.mono (fun x hx => by omega)⟩
  · rw [hes, elOf_append (by rw [← hes]; exact kn)] at hmap
    exact hF2.mapf hmap (by rw [h.omp v hv]; omega)
  · exact fun e he => h.oel v hv e (hsub e he)
  · rw [hes, List.map_append] at ap; exact (List.nodup_append.1 ap).1
  · rw [hes, List.map_append] at kn; exact (List.nodup_append.1 kn).1
  · exact fun e he => h.kl v hv e (hsub e he)
  · omega
  · have r2 : w2.rowIs I.bh 48 nK I.hv := hF1.row (hF0.row h.rh (by rw [h.oh]; omega)) (by rw [h.oh]; omega)
    rw [hw5]
    exact ((r2.setOther (a := ⟨g, i, none⟩) (Ne.symm gbh) _).set z.2 _).congr fun j _ => by unfold setL; rfl
  · intro j hj b hb
    by_cases e : j = z.2
    · subst e; rw [setL_same] at hb; simp [slN, Value.ownBlock] at hb; subst hb; exact og
    · rw [setL_other _ _ e] at hb; exact h.ohv j hj b hb
  · intro j hj
    have hj2 : w2.ownsRow base 3 1 (I.hv j) (S.hold j).length ((S.hold j).map fun (v : Nat) => .int .i64 (v : Int)) := hF1.own (hF0.own (h.ho j hj) (fun b hb => by rw [h.ohv j hj b hb]; omega)) (fun b hb => by rw [h.ohv j hj b hb]; omega)
    by_cases e : j = z.2
    · subst e
      rw [setL_same, setL_same, hw5]
      rw [hgv, hn] at hj2
      have q1 := own_set hj2 hi (.int .i64 (((S.hold z.2)[n - 1]! : Nat) : Int))
      have q2 := own_take q1 (show n - 1 ≤ n by omega)
      have q3 := own_frW (S := [I.bh]) q2 (Fr.setCell _ ⟨I.bh, z.2, none⟩ (slN g (n - 1) cap) (by simp)) (fun b hb => by simp [slN, Value.ownBlock] at hb; subst hb; simp [gbh])
      rw [o3, hn]
      have : (outL (S.hold z.2) i).map (fun (v : Nat) => Value.int .i64 (v : Int)) = (((S.hold z.2).map fun (v : Nat) => Value.int .i64 (v : Int)).set i (.int .i64 (((S.hold z.2)[n - 1]! : Nat) : Int))).take (n - 1) := by
        unfold outL
        rw [hn, List.map_take, List.map_set]
      rw [this]
      exact q3
    · rw [setL_other _ _ e, setL_other _ _ e]
      exact hF2.own hj2 (fun b hb => by rw [h.ohv j hj b hb]; omega)
  · intro j hj
    have hsj := h.hs j hj
    have hkeys : ∀ u, j ∈ (setL S.els v es u).map Prod.snd ↔ j ∈ (S.els u).map Prod.snd ∧ ¬ (u = v ∧ j = z.2) := fun u => by
      by_cases e : u = v
      · subst e
        rw [setL_same, hes, List.map_append, List.mem_append]
        rw [hes, List.map_append, List.nodup_append] at kn
        constructor
        · intro hm; exact ⟨Or.inl hm, fun hh => kn.2.2 j hm z.2 (by simp) hh.2⟩
        · rintro ⟨hm | hm, hne⟩
          · exact hm
          · simp at hm; exact absurd ⟨rfl, hm⟩ hne
      · rw [setL_other _ _ e]; simp [e]
    by_cases e : j = z.2
    · subst e
      rw [setL_same]
      refine ⟨o1, fun u => ?_⟩
      rw [hkeys u, o2 u, hsj.2 u]
      constructor
      · rintro ⟨⟨h1, h2⟩, h3⟩; exact ⟨h1, h2, fun hh => h3 hh.1⟩
      · rintro ⟨h1, h2, h3⟩; exact ⟨⟨h1, h2⟩, fun hh => h3 ⟨hh, rfl⟩⟩
    · rw [setL_other _ _ e]
      refine ⟨hsj.1, fun u => ?_⟩
      rw [hkeys u, hsj.2 u]; simp [e]
  · show (setL S.els v es u).length ≤ sz
    by_cases e : u = v
    · subst e; rw [setL_same]; exact hesl
    · rw [setL_other _ _ e]; exact hoth u hu' e
end Go.Proofs.Ybulkdpsg

/- S5830C: heap.Pop, heap.Push by their contracts. -/
import Derived.Test.YbulkdpsgD9
namespace Go.Proofs.Ybulkdpsg
open Go Go.RowKit Go.Sort Go.Proofs Go.Lib
set_option linter.unusedVariables false
set_option linter.unusedSimpArgs false

structure Hq (w : World) (base bs : Nat) (v : Value) (d : Array En) : Prop where
  var : w.rowIs bs 140 1 (fun _ => v)
  own : w.ownsRow base 142 2 v d.size (flE d)
  ne : ∀ k, v.ownBlock = some k → k ≠ bs
  hp : Hp d.size d
theorem permIn_list {d d' : Array En} {n : Nat} (h : PermIn 0 n d d') (hn : d.size = n) : d.toList.Perm d'.toList := by
  have h3 := h.2.2
  have h1 := h.1
  have e1 : d.extract 0 n = d := by rw [← hn]; exact Array.extract_size
  have e2 : d'.extract 0 n = d' := by rw [← hn, ← h1]; exact Array.extract_size
  rw [e1, e2] at h3
  exact h3.symm
theorem dn_of_hp {d : Array En} {m : Nat} (h : Hp (m + 1) d) (hd : d.size = m + 1) : Dn m 0 (swp d 0 m) := by
  refine ⟨fun k h1 h2 h3 => ?_, fun k _ _ _ h4 => by omega⟩
  rw [swp_other d 0 m _ h3 (by omega), swp_other d 0 m k (by omega) (by omega)]
  exact h k h1 (by omega)
theorem mdp (x : Value) (w : World) : (method 310 144 x "Pop").run Yba.prog w = .ok (112, x) w ∧ (method 310 144 x "Push").run Yba.prog w = .ok (113, x) w := ⟨by kernel_rfl, by kernel_rfl⟩
theorem cf112 (args : Array Value) (w : World) : (callFunc 112 args).run Yba.prog w = .ok (.enter 112 args) w := by kernel_rfl
theorem cf113 (args : Array Value) (w : World) : (callFunc 113 args).run Yba.prog w = .ok (.enter 113 args) w := by kernel_rfl
theorem pop_split {d : Array En} {m : Nat} (hd : d.size = m + 1) : d.toList.Perm (d[m]! :: d.pop.toList) := by
  have hl : d.toList.length = m + 1 := hd
  have hne : d.toList ≠ [] := fun h => by rw [h] at hl; cases hl
  have e : d.toList.getLast hne = d[m]! := by rw [List.getLast_eq_getElem, getElem!_pos d m (by omega)]; simp [hd]
  have h2 : d.toList = d.pop.toList ++ [d[m]!] := by rw [Array.toList_pop, ← e]; exact (List.dropLast_concat_getLast hne).symm
  rw [h2]
  exact List.perm_append_comm
theorem own_fr {S : List Nat} {w w' : World} {base : Nat} {e : TypeId} {size : Nat} {v : Value} {n : Nat} {xs : List Value} (h : w.ownsRow base e size v n xs) (hf : Fr S w w') (hn : ∀ k, v.ownBlock = some k → k ∉ S) : w'.ownsRow base e size v n xs := by
  refine ⟨h.1, ?_⟩
  rcases h.2 with h1 | ⟨g, cap, cur, rfl, hb, hg, hc, hm, hs, ht⟩
  · exact Or.inl h1
  · exact Or.inr ⟨g, cap, cur, rfl, hb, (hf.block g (Array.getElem?_eq_some_iff.1 hg).1 (hn g rfl)).trans hg, hc, hm, hs, ht⟩
theorem Fr.weak {S T : List Nat} {a b : World} (h : Fr S a b) (hs : ∀ k, k ∈ S → k ∈ T) : Fr T a b := h.mono (fun k _ => hs k)
theorem len109 (a : Option Addr) (n c : Nat) (w : World) : Calls Yba.prog 109 #[.slice a n c] w fun e w' => e = .returned (.int .i64 (n : Int)) ∧ w = w' := by
  go_enter Yba.func109, Yba.ntmps109
  go_wp2
  go_ret
  exact ⟨rfl, rfl⟩
set_option maxRecDepth 100000 in
set_option maxHeartbeats 2000000 in
theorem pop36 (base bs m : Nat) (v : Value) (d : Array En) (w : World) (H : Hq w base bs v d) (hd : Hid (d.size = m + 1)) (hm : m ≤ 4000) :
    Calls Yba.prog 36 #[.iface 144 (.pointer (some ⟨bs, 0, none⟩))] w fun e w' => e = .returned (.iface 142 (.agg #[.int .i64 d[0]!.at_, .int .i64 d[0]!.tk])) ∧ ∃ d' v', Hq w' base bs v' d' ∧ d'.size = m ∧ d.toList.Perm (d[0]! :: d'.toList) ∧ v'.ownBlock = v.ownBlock ∧ Fr (bs :: v.ownBlock.toList) w w' := by
  obtain ⟨g, cap, rfl, hbg, _⟩ := H.own.form (by rw [hd.out]; omega)
  obtain ⟨hH, hg, _, hcap⟩ := own_holds H.own
  have HH : Hid (Hq w base bs (.slice (some ⟨g, 0, none⟩) d.size cap) d ∧ HoldsK encE 2 w g 0 d ∧ d.size ≤ cap) := ⟨H, hH, hcap⟩
  have hne : bs ≠ g := fun e => H.ne g rfl e.symm
  have hvar : w.cell? ⟨bs, 0, none⟩ = some (.slice (some ⟨g, 0, none⟩) (m + 1) cap) := by rw [← hd.out]; exact H.var.cell (i := 0) (by omega)
  have hlen := md_len bs _ w hvar
  have hswm := md_swap bs _ w hvar
  have HSW : Hid (Calls Yba.prog 111 #[.slice (some ⟨g, 0, none⟩) (m + 1) cap, .int .i64 ((0 : Nat) : Int), .int .i64 (m : Int)] w fun e w' => e = .returned (.tuple #[]) ∧ TwE w w' g (swp d 0 m)) := swap111 g (m + 1) cap 0 m d w hH hg hd.out (by omega) (by omega) (by omega)
  have c109 := cf109
  have hL := len109 (some ⟨g, 0, none⟩) (m + 1) cap w
  have c111 := cf111
  have c112 := cf112
  have mp := fun x w => (mdp x w).1
  have hz : ((m + 1 : Nat) : Int) - 1 = (m : Int) := by omega
  have HPOP : Hid (∀ w2 d2, (TwE w w2 g d2 ∧ Hp m d2 ∧ PermIn 0 m (swp d 0 m) d2) → Calls Yba.prog 112 #[.pointer (some ⟨bs, 0, none⟩)] w2 fun e w' => e = .returned (.iface 142 (.agg #[.int .i64 d[0]!.at_, .int .i64 d[0]!.tk])) ∧ ∃ q, w' = ((w2.setCell ⟨bs, 0, none⟩ (.slice (some ⟨g, 0, none⟩) m cap)).alloc (.cells #[.int .i64 d[0]!.at_, .int .i64 d[0]!.tk] 142)).drewN q) := by
    rintro w2 d2 ⟨hT, hp2, hpm⟩
    have hd2 : d2.size = m + 1 := hpm.1.trans ((size_swp _ _ _).trans hd.out)
    have e1 : d2[m]! = d[0]! := by rw [hpm.2.1 m (Or.inr (Nat.le_refl _)), swp_right d 0 m (by have := hd.out; omega)]
    obtain ⟨c0, c1, _, _⟩ := cellE hT.holds (show m < d2.size by omega)
    rw [e1] at c0 c1
    have hfz : w2.frozen? ⟨bs, 0, none⟩ = false := ((Fr.of_grown hT.grown).row H.var (by simp [hne])).frozen 0
    exact pop112 bs g m cap d[0]! w2 (hT.cell hvar hne) hfz c0 c1 (by omega) (by have := hd.out; omega)
  clear H hH hcap
  go_enter Yba.func36, Yba.ntmps36
  go_wp2_with (first | (go_at_call 109; go_loud (refine hL.mono ?_; clear hL; rintro e w' ⟨rfl, rfl⟩)) | (go_at_call 111; refine HSW.out.mono ?_; rintro e w1 ⟨rfl, htw1⟩; have HT1 : Hid (TwE w w1 g (swp d 0 m)) := htw1; clear htw1; have hdn := down47 bs g (m + 1) cap m (swp d 0 m) w1 (HT1.out.cell hvar hne) hne HT1.out.holds (HT1.out.lt hg) (by show (swp d 0 m).size = m + 1; rw [size_swp]; exact hd.out) (by omega) (by omega) (dn_of_hp (by have := HH.out.1.hp; rw [hd.out] at this; exact this) hd.out)) | (go_at_call 47; refine hdn.mono ?_; clear hdn; rintro e w2 ⟨⟨b, rfl⟩, d2, htw2, hhp2, hpm2⟩; have HT2 : Hid (TwE w w2 g d2 ∧ Hp m d2 ∧ PermIn 0 m (swp d 0 m) d2) := ⟨HT1.out.trans htw2, hhp2, hpm2⟩; clear htw2 hhp2 hpm2; have hpop := HPOP.out w2 d2 HT2.out) | (go_at_call 112; refine hpop.mono ?_; clear hpop; rintro e w3 ⟨rfl, hw3⟩; have HW3 : Hid _ := hw3; clear hw3))
  go_ret
  refine ⟨rfl, d2.pop, .slice (some ⟨g, 0, none⟩) m cap, ?_⟩
  obtain ⟨q, rfl⟩ := HW3.out
  obtain ⟨hH, hHo, hcap⟩ := HH.out
  obtain ⟨hT, hp2, hpm⟩ := HT2.out
  have hd2 : d2.size = m + 1 := hpm.1.trans ((size_swp _ _ _).trans hd.out)
  have hfr : Fr [g] w w2 := Fr.of_grown hT.grown
  have hfr2 : Fr [bs] w2 (((w2.setCell ⟨bs, 0, none⟩ (.slice (some ⟨g, 0, none⟩) m cap)).alloc (.cells #[.int .i64 d[0]!.at_, .int .i64 d[0]!.tk] 142)).drewN q) := ((Fr.setCell w2 _ _ (by simp)).trans (Fr.alloc _ _ _)).trans (Fr.drewN _ _ q)
  refine ⟨⟨?_, ?_, fun k hk => ?_, ?_⟩, by simp [hd2], ?_, rfl, ?_⟩
  · have h1 : w2.rowIs bs 140 1 _ := hfr.row hH.var (by simp [hne])
    exact (((h1.set 0 (.slice (some ⟨g, 0, none⟩) m cap)).alloc _).congr fun i hi => by simp; omega)
  · have h1 := own_of hH.own hT.holds hT.shape (hd2.trans hd.out.symm)
    rw [hd.out] at h1
    have h2 := own_pop h1 hd2
    have h3 : d2.pop.size = m := by simp [hd2]
    rw [h3]
    exact own_fr h2 hfr2 (fun k hk => by simp [Value.ownBlock] at hk; subst hk; simp; exact fun e => hne e.symm)
  · simp [Value.ownBlock] at hk; subst hk; exact fun e => hne e.symm
  · intro k h1 h2
    have h3 : d2.pop.size = m := by simp [hd2]
    rw [h3] at h2
    rw [getElem!_pos d2.pop k (by omega), getElem!_pos d2.pop ((k - 1) / 2) (by omega), Array.getElem_pop, Array.getElem_pop]
    have := hp2 k h1 h2
    rwa [getElem!_pos d2 k (by omega), getElem!_pos d2 ((k - 1) / 2) (by omega)] at this
  · have e1 : d2[m]! = d[0]! := by rw [hpm.2.1 m (Or.inr (Nat.le_refl _)), swp_right d 0 m (by have := hd.out; omega)]
    have p1 := permIn_list (swp_permIn d 0 (m + 1) 0 m (Nat.zero_le _) (by omega) (Nat.zero_le _) (by omega) (by rw [hd.out]; exact Nat.le_refl _)) hd.out
    have p2 := permIn_list (permIn_mono _ _ _ _ 0 (m + 1) (Nat.le_refl _) (by omega) (by rw [size_swp, hd.out]; exact Nat.le_refl _) hpm) (by rw [size_swp]; exact hd.out)
    have p3 := pop_split hd2
    rw [e1] at p3
    exact (p1.trans p2).trans p3
  · exact (hfr.weak (by simp [Value.ownBlock])).trans (hfr2.weak (by simp))
end Go.Proofs.Ybulkdpsg

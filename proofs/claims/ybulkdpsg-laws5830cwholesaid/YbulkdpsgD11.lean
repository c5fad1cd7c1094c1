/- S5830C: heap.Push by its contract. -/
import Derived.Test.YbulkdpsgD10
namespace Go.Proofs.Ybulkdpsg
open Go Go.RowKit Go.Sort Go.Proofs Go.Lib
set_option linter.unusedVariables false
set_option linter.unusedSimpArgs false

theorem push_get (d : Array En) (x : En) {k : Nat} (h : k < d.size) : (d.push x)[k]! = d[k]! := by
  rw [getElem!_pos (d.push x) k (by simp; omega), getElem!_pos d k h, Array.getElem_push_lt h]
theorem up_of_hp {d : Array En} {n : Nat} (h : Hp n d) (hd : d.size = n) (x : En) : Up (n + 1) n (d.push x) := by
  refine ⟨fun k h1 h2 h3 => ?_, fun k h1 h2 h3 h4 => by omega⟩
  rw [push_get d x (by omega), push_get d x (by omega)]
  exact h k h1 (by omega)
theorem fr_grown {w w1 : World} {v : Value} {bs : Nat} (h : w.grownBy w1 v.ownBlock) : Fr (bs :: v.ownBlock.toList) w w1 :=
  ⟨h.os, h.tape, h.output, h.size, fun k hk hn => h.block k hk (fun e => hn (by simp [← e]))⟩
set_option maxRecDepth 100000 in
set_option maxHeartbeats 2000000 in
theorem push39 (base bs n : Nat) (v : Value) (d : Array En) (x : En) (w : World) (H : Hq w base bs v d) (hd : Hid (d.size = n)) (hn : n ≤ 4000) (hbase : base ≤ w.heap.size) :
    Calls Yba.prog 39 #[.iface 144 (.pointer (some ⟨bs, 0, none⟩)), .iface 142 (.agg #[.int .i64 x.at_, .int .i64 x.tk])] w fun e w' => e = .returned (.tuple #[]) ∧ ∃ d' v', Hq w' base bs v' d' ∧ d'.size = n + 1 ∧ (x :: d.toList).Perm d'.toList ∧ (v'.ownBlock = v.ownBlock ∨ ∃ g, v'.ownBlock = some g ∧ w.heap.size ≤ g) ∧ Fr (bs :: v.ownBlock.toList) w w' := by
  have hcell : w.cell? ⟨bs, 0, none⟩ = some v := H.var.cell (i := 0) (by omega)
  have HP := push113 bs n v (flE d) base x w hcell (H.var.frozen 0) (by have := H.own; rw [hd.out] at this; exact this) hbase (by omega) H.ne
  have HH : Hid (Hq w base bs v d) := H
  have hbs : bs < w.heap.size := H.var.lt
  have c109 := cf109
  have c113 := cf113
  have mp := fun x w => (mdp x w).2
  have hz : ((n + 1 : Nat) : Int) - 1 = (n : Int) := by omega
  have HUP : Hid (∀ g cap w1, w1.ownsRow base 142 2 (.slice (some ⟨g, 0, none⟩) (n + 1) cap) (n + 1) (flE d ++ encE x) → w.grownBy w1 v.ownBlock → (v.ownBlock = some g ∨ w.heap.size ≤ g) → bs ≠ g ∧ Calls Yba.prog 54 #[.iface 144 (.pointer (some ⟨bs, 0, none⟩)), .int .i64 (n : Int)] (w1.setCell ⟨bs, 0, none⟩ (.slice (some ⟨g, 0, none⟩) (n + 1) cap)) fun e w' => e = .returned (.tuple #[]) ∧ ∃ d', TwE (w1.setCell ⟨bs, 0, none⟩ (.slice (some ⟨g, 0, none⟩) (n + 1) cap)) w' g d' ∧ Hp (n + 1) d' ∧ PermIn 0 (n + 1) (d.push x) d') := by
    intro g cap w1 hown hgr hat
    have hne : bs ≠ g := by
      rcases hat with h | h
      · exact fun e => H.ne g h e.symm
      · omega
    rw [flE_push] at hown
    obtain ⟨hH, hg, _, _⟩ := own_holds hown
    have hfr := fr_grown (bs := bs) hgr
    have hv1 : w1.cell? ⟨bs, 0, none⟩ = some v := hgr.cell hcell (fun e => H.ne bs e.symm rfl)
    have hset : (w1.setCell ⟨bs, 0, none⟩ (.slice (some ⟨g, 0, none⟩) (n + 1) cap)).cell? ⟨bs, 0, none⟩ = some (.slice (some ⟨g, 0, none⟩) (n + 1) cap) := World.cell?_setCell_same _ _ _ hv1
    have hH2 : HoldsK encE 2 (w1.setCell ⟨bs, 0, none⟩ (.slice (some ⟨g, 0, none⟩) (n + 1) cap)) g 0 (d.push x) := fun j hj => by
      have := hH j hj
      refine ⟨?_, ?_⟩
      · rw [World.cell?_setCell_other _ _ _ _ (by first | (simp; done) | (simp; exact fun e => absurd e hne))]; exact this.1
      · rw [World.frozen?_setCell]; exact this.2
    exact ⟨hne, up54 bs g (n + 1) cap n (d.push x) _ hset hne hH2 (by simp [World.setCell]; exact hg) (by show (d.push x).size = n + 1; simp [hd.out]) (by omega) (by omega) (up_of_hp (by have := H.hp; rw [hd.out] at this; exact this) hd.out x)⟩
  clear H
  go_enter Yba.func39, Yba.ntmps39
  go_wp2_with (first | (go_at_call 113; refine HP.mono ?_; clear HP; rintro e w2 ⟨rfl, g, cap, w1, rfl, hown, hgr, hat⟩; have hup := HUP.out g cap w1 hown hgr hat; have HA : Hid (w1.ownsRow base 142 2 (.slice (some ⟨g, 0, none⟩) (n + 1) cap) (n + 1) (flE d ++ encE x) ∧ w.grownBy w1 v.ownBlock ∧ (v.ownBlock = some g ∨ w.heap.size ≤ g)) := ⟨hown, hgr, hat⟩; clear hown hgr hat; obtain ⟨hne, hup⟩ := hup; have hv1 : w1.cell? ⟨bs, 0, none⟩ = some v := HA.out.2.1.cell hcell (fun e => HH.out.ne bs e.symm rfl); obtain ⟨W, hW⟩ : ∃ W, w1.setCell ⟨bs, 0, none⟩ (.slice (some ⟨g, 0, none⟩) (n + 1) cap) = W := ⟨_, rfl⟩; have hcW : W.cell? ⟨bs, 0, none⟩ = some (.slice (some ⟨g, 0, none⟩) (n + 1) cap) := (by rw [← hW]; exact World.cell?_setCell_same _ _ _ hv1); have HW : Hid (w1.setCell ⟨bs, 0, none⟩ (.slice (some ⟨g, 0, none⟩) (n + 1) cap) = W) := hW; rw [hW] at hup; simp only [hW]; clear hW hv1; have hln := md_len bs _ W hcW; have hL := len109 (some ⟨g, 0, none⟩) (n + 1) cap W) | (go_at_call 109; refine hL.mono ?_; clear hL; rintro e w3 ⟨rfl, rfl⟩) | (go_at_call 54; refine hup.mono ?_; clear hup; rintro e w4 ⟨rfl, d', htw, hhp, hpm⟩; have HT : Hid (TwE W w4 g d' ∧ Hp (n + 1) d' ∧ PermIn 0 (n + 1) (d.push x) d') := ⟨htw, hhp, hpm⟩; clear htw hhp hpm))
  go_end0
  obtain ⟨hT, hhp, hpm⟩ := HT.out
  obtain ⟨hown, hgr, hat⟩ := HA.out
  have hd' : d'.size = n + 1 := by have := hpm.1; simp [hd.out] at this; exact this
  have hfr1 : Fr [g] W w4 := Fr.of_grown hT.grown
  have hW := HW.out
  refine ⟨rfl, d', .slice (some ⟨g, 0, none⟩) (n + 1) cap, ⟨?_, ?_, fun k hk => ?_, ?_⟩, hd', ?_, ?_, ?_⟩
  · have h1 : w1.rowIs bs 140 1 (fun _ => v) := (fr_grown (bs := g) hgr).row HH.out.var (by
      intro hm
      simp at hm
      rcases hm with h | h
      · exact hne h
      · exact HH.out.ne bs h rfl)
    have h2 : W.rowIs bs 140 1 (fun _ => .slice (some ⟨g, 0, none⟩) (n + 1) cap) := by rw [← hW]; exact (h1.set 0 _).congr fun i hi => by simp; omega
    exact hfr1.row h2 (by simp [hne])
  · rw [flE_push] at hown
    have h2 : W.ownsRow base 142 2 (.slice (some ⟨g, 0, none⟩) (n + 1) cap) (n + 1) (flE (d.push x)) := by
      rw [← hW]
      exact own_fr hown (Fr.setCell (S := [bs]) w1 _ _ (by simp)) (fun k hk => by simp [Value.ownBlock] at hk; subst hk; simp; exact fun e => hne e.symm)
    rw [hd']
    exact own_of h2 hT.holds hT.shape hd'
  · simp [Value.ownBlock] at hk; subst hk; exact fun e => hne e.symm
  · rw [hd']; exact hhp
  · have p2 := permIn_list hpm (by simp [hd.out])
    refine List.Perm.trans ?_ p2
    rw [Array.toList_push]
    exact (List.perm_append_singleton x d.toList).symm
  · rcases hat with h | h
    · exact Or.inl (by rw [h]; rfl)
    · exact Or.inr ⟨g, rfl, h⟩
  · have f0 : Fr (bs :: v.ownBlock.toList) w w1 := fr_grown hgr
    have f1 : Fr (bs :: v.ownBlock.toList) w1 W := by rw [← hW]; exact Fr.setCell w1 _ _ (by simp)
    have f2 := f0.trans f1
    refine ⟨hfr1.os.trans f2.os, hfr1.tape.trans f2.tape, hfr1.output.trans f2.output, Nat.le_trans f2.size hfr1.size, fun k hk hn => (hfr1.block k (Nat.lt_of_lt_of_le hk f2.size) ?_).trans (f2.block k hk hn)⟩
    intro hm
    simp at hm
    subst hm
    rcases hat with h | h
    · exact hn (by simp [h])
    · omega
end Go.Proofs.Ybulkdpsg

/- S5830C: container/heap: Pop, Push over endings. -/
import Derived.Test.YbulkdpsgD7
import Derived.OwnWalk
import Derived.Deep.RegionLaw
import Derived.Deep.AppendLies
namespace Go.Proofs.Ybulkdpsg
open Go Go.RowKit Go.Sort Go.Proofs Go.Lib
set_option linter.unusedVariables false
set_option linter.unusedSimpArgs false

/-- All blocks that were there stand as they were, but for those of S. -/
structure Fr (S : List Nat) (w w' : World) : Prop where
  os : w'.os = w.os
  tape : w'.tape = w.tape
  output : w'.output = w.output
  size : w.heap.size ≤ w'.heap.size
  block : ∀ k, k < w.heap.size → k ∉ S → w'.heap[k]? = w.heap[k]?
theorem Fr.refl (S : List Nat) (w : World) : Fr S w w := ⟨rfl, rfl, rfl, Nat.le_refl _, fun _ _ _ => rfl⟩
theorem Fr.trans {S : List Nat} {a b c : World} (h : Fr S a b) (k : Fr S b c) : Fr S a c :=
  ⟨k.os.trans h.os, k.tape.trans h.tape, k.output.trans h.output, Nat.le_trans h.size k.size, fun i hi hs => (k.block i (Nat.lt_of_lt_of_le hi h.size) hs).trans (h.block i hi hs)⟩
theorem Fr.mono {S T : List Nat} {a b : World} (h : Fr S a b) (hs : ∀ k, k < a.heap.size → k ∈ S → k ∈ T) : Fr T a b := ⟨h.os, h.tape, h.output, h.size, fun k hk hn => h.block k hk (fun hm => hn (hs k hk hm))⟩
theorem Fr.of_grown {w w' : World} {blk : Nat} (h : w.grownBy w' (some blk)) : Fr [blk] w w' := ⟨h.os, h.tape, h.output, h.size, fun k hk hn => h.block k hk (fun e => hn (by simp [Option.some.inj e]))⟩
theorem Fr.drewN (S : List Nat) (w : World) (q : Nat) : Fr S w (w.drewN q) := ⟨rfl, rfl, rfl, Nat.le_refl _, fun _ _ _ => rfl⟩
theorem Fr.alloc (S : List Nat) (w : World) (o : Obj) : Fr S w (w.alloc o) := ⟨rfl, rfl, rfl, by simp, fun k hk _ => Deep.blk_alloc_lt w o k hk⟩
theorem Fr.setCell {S : List Nat} (w : World) (a : Addr) (v : Value) (h : a.block ∈ S) : Fr S w (w.setCell a v) := ⟨rfl, rfl, rfl, by simp [World.setCell], fun k hk hn => Deep.blk_setCell_other w a v k (fun e => hn (e ▸ h))⟩
theorem Fr.cell {S : List Nat} {w w' : World} (h : Fr S w w') {a : Addr} {v : Value} (hc : w.cell? a = some v) (hn : a.block ∉ S) : w'.cell? a = some v :=
  (World.cell?_of_block (h.block _ (World.block_lt_of_cell? w a hc) hn)).trans hc
theorem Fr.row {S : List Nat} {w w' : World} (h : Fr S w w') {b : Nat} {t : TypeId} {n : Nat} {f : Nat → Value} (hc : w.rowIs b t n f) (hn : b ∉ S) : w'.rowIs b t n f := hc.of_block (h.block _ hc.lt hn)

/-- The heap of endings: its variable lies in block bs, its row in bh. -/
structure HpAt (w : World) (bs bh : Nat) (c : Nat) (d : Array En) : Prop where
  var : w.rowIs bs 140 1 (fun _ => .slice (some ⟨bh, 0, none⟩) d.size c)
  row : ∃ cur, w.heap[bh]? = some (.cells cur 142 (0, 0)) ∧ cur.size = c * 2
  cap : c ≤ maxLen ∧ d.size ≤ c
  holds : HoldsK encE 2 w bh 0 d
  ne : bs ≠ bh
  hp : Hp d.size d
theorem drewN_drew (w : World) : w.drew = w.drewN 1 := rfl
set_option maxRecDepth 100000 in
set_option maxHeartbeats 1000000 in
theorem pop112 (bs bh m c : Nat) (x : En) (w : World) (hs : w.cell? ⟨bs, 0, none⟩ = some (.slice (some ⟨bh, 0, none⟩) (m + 1) c)) (hf : w.frozen? ⟨bs, 0, none⟩ = false) (c0 : w.cell? ⟨bh, m * 2, none⟩ = some (.int .i64 x.at_)) (c1 : w.cell? ⟨bh, m * 2 + 1, none⟩ = some (.int .i64 x.tk)) (hm : m ≤ 5000) (hc : m + 1 ≤ c) :
    Calls Yba.prog 112 #[.pointer (some ⟨bs, 0, none⟩)] w fun e w' => e = .returned (.iface 142 (.agg #[.int .i64 x.at_, .int .i64 x.tk])) ∧ ∃ q, w' = ((w.setCell ⟨bs, 0, none⟩ (.slice (some ⟨bh, 0, none⟩) m c)).alloc (.cells #[.int .i64 x.at_, .int .i64 x.tk] 142)).drewN q := by
  have mixed := mixedYba
  have aE := agg142
  have zE := size142
  have hz : ((m + 1 : Nat) : Int) - 1 = (m : Int) := by omega
  have hb1 : bs < w.heap.size := by simpa using World.block_lt_of_cell? w _ hs
  have hb2 : bh < w.heap.size := by simpa using World.block_lt_of_cell? w _ c0
  go_enter Yba.func112, Yba.ntmps112
  go_wp2_with fail
  go_big_region_o
  all_goals go_wp2_with fail
  go_big_region_o
  all_goals go_wp2_with fail
  go_ret
  refine ⟨rfl, 2, ?_⟩
  rfl
theorem ta142 (x : Value) (w : World) : (Instr.typeAssert (.iface 142 x) 20 142 false).run Yba.prog w = .ok x w := by kernel_rfl
theorem info142 : (Yba.prog.info? 142).map (fun i => (i.zero, i.size, i.bytes)) = some (some (.agg #[.int .i64 0, .int .i64 0]), 2, 16) := by kernel_rfl
set_option maxRecDepth 100000 in
set_option maxHeartbeats 1000000 in
theorem push113 (bs n : Nat) (v : Value) (xs : List Value) (base : Nat) (x : En) (w : World) (hs : w.cell? ⟨bs, 0, none⟩ = some v) (hf : w.frozen? ⟨bs, 0, none⟩ = false) (hown : w.ownsRow base 142 2 v n xs) (hbase : base ≤ w.heap.size) (hn : n ≤ 5000) (hne : ∀ k, v.ownBlock = some k → k ≠ bs) :
    Calls Yba.prog 113 #[.pointer (some ⟨bs, 0, none⟩), .iface 142 (.agg #[.int .i64 x.at_, .int .i64 x.tk])] w fun e w' => e = .returned (.tuple #[]) ∧ ∃ g cap w1, w' = w1.setCell ⟨bs, 0, none⟩ (.slice (some ⟨g, 0, none⟩) (n + 1) cap) ∧ w1.ownsRow base 142 2 (.slice (some ⟨g, 0, none⟩) (n + 1) cap) (n + 1) (xs ++ encE x) ∧ w.grownBy w1 v.ownBlock ∧ (v.ownBlock = some g ∨ w.heap.size ≤ g) := by
  have mixed := mixedYba
  have aE := agg142
  have zE := size142
  have tA := ta142
  obtain ⟨i0, hi, hz0, hz1, hz2⟩ := info_parts info142
  have hb1 : bs < w.heap.size := by simpa using World.block_lt_of_cell? w _ hs
  obtain ⟨W, hW⟩ : ∃ W, (w.alloc (.cells #[.int .i64 x.at_, .int .i64 x.tk] 142)).drew = W := ⟨_, rfl⟩
  have HO : Hid (W.ownsRow base 142 2 v n xs) := by rw [← hW]; exact hown.alloc _
  have hWs : W.heap.size = w.heap.size + 1 := by rw [← hW]; simp
  have hWb : W.heap[w.heap.size]? = some (.cells #[.int .i64 x.at_, .int .i64 x.tk] 142 (0, 0)) := by rw [← hW]; exact Deep.blk_alloc_new w _
  have hWo : ∀ k, k < w.heap.size → W.heap[k]? = w.heap[k]? := fun k hk => by rw [← hW]; exact Deep.blk_alloc_lt w _ k hk
  have HN : Hid (∀ j u, (encE x)[j]? = some u → W.cell? ((⟨w.heap.size, 0, none⟩ : Addr).add j) = some u) := World.news_of_block hWb
  have HW : Hid (W.os = w.os ∧ W.tape = w.tape ∧ W.output = w.output ∧ ∀ k, k < w.heap.size → W.heap[k]? = w.heap[k]?) := ⟨by rw [← hW]; rfl, by rw [← hW]; rfl, by rw [← hW]; rfl, hWo⟩
  have hsz : Hid (base ≤ W.heap.size) := by show base ≤ W.heap.size; omega
  have hsz2 : Hid (W.heap.size = w.heap.size + 1) := hWs
  have HS : Hid (w.cell? ⟨bs, 0, none⟩ = some v ∧ w.frozen? ⟨bs, 0, none⟩ = false ∧ ∀ k, v.ownBlock = some k → k ≠ bs) := ⟨hs, hf, hne⟩
  have hsW : W.cell? ⟨bs, 0, none⟩ = some v := (World.cell?_of_block (hWo bs hb1)).trans hs
  clear hWb hWo hown hWs hne
  go_enter Yba.func113, Yba.ntmps113
  go_wp2_with fail
  go_region_law (refine step_append_lies W rfl (.tmp 7) (.tmp 10) 140 rfl base 142 i0 _ 2 16 Yba.underlying140 hi hz0 hz1 hz2 (by rfl) (by decide) v n xs (by simp [Act.eval, Act.put]) HO.out ⟨w.heap.size, 0, none⟩ 1 1 (encE x) (by simp [Act.eval, Act.put]) rfl HN.out (encE_one x) (by decide) (by simp [maxLen]; omega) (by omega) hsz.out (w.heap.size + 1) hsz2.out ?_; intro g cap w1 hown' hgrow hat hlt; have hs1 : w1.cell? ⟨bs, 0, none⟩ = some v := hgrow.cell ((World.cell?_of_block (HW.out.2.2.2 bs hb1)).trans HS.out.1) (fun e => HS.out.2.2 bs e.symm rfl); have hf1 : w1.frozen? ⟨bs, 0, none⟩ = false := (hgrow.frozen_far ⟨bs, 0, none⟩ (by show bs < W.heap.size; have := hsz2.out; omega) (fun e => HS.out.2.2 bs e.symm rfl)).trans ((World.frozen?_of_block (HW.out.2.2.2 bs hb1)).trans HS.out.2.1); have HF : Hid (w1.ownsRow base 142 2 (.slice (some ⟨g, 0, none⟩) (n + 1) cap) (n + 1) (xs ++ encE x) ∧ W.grownBy w1 v.ownBlock ∧ (v.ownBlock = some g ∨ g = w.heap.size + 1)) := ⟨hown', hgrow, hat⟩; clear hown' hgrow hat hlt)
  all_goals go_wp2_with fail
  all_goals
    go_end0
    refine ⟨rfl, g, cap, w1, rfl, HF.out.1, ?_, ?_⟩
    · have hg := HF.out.2.1
      have h2 := HW.out
      exact ⟨hg.os.trans h2.1, hg.tape.trans h2.2.1, hg.output.trans h2.2.2.1, by have := hg.size; have := hsz2.out; omega, fun k hk hne => (hg.block k (by have := hsz2.out; omega) hne).trans (h2.2.2.2 k hk)⟩
    · rcases HF.out.2.2 with h | h
      · exact Or.inl h
      · exact Or.inr (by omega)
end Go.Proofs.Ybulkdpsg

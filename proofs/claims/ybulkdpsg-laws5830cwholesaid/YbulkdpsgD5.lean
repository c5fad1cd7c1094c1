/- S5830C: container/heap over endings. -/
import Derived.Test.YbulkdpsgD1
import Derived.Test.YbulkdpsgC6
import Derived.Deep.OwnRows
namespace Go.Proofs.Ybulkdpsg
open Go Go.RowKit Go.Sort Go.Proofs Go.Lib
set_option linter.unusedVariables false
set_option linter.unusedSimpArgs false
theorem agg142 (w : World) : (isAgg 142).run Yba.prog w = .ok true w := by kernel_rfl
theorem size142 (w : World) : (Go.sizeOf 142).run Yba.prog w = .ok 2 w := by kernel_rfl
theorem agg140 (w : World) : (isAgg 140).run Yba.prog w = .ok false w := by kernel_rfl
theorem cm_pop (x : Value) (w : World) : (callMethod (.iface 144 x) "Pop" #[]).run Yba.prog w = .ok (.enter 112 #[x]) w := by kernel_rfl
theorem cm_push (x y : Value) (w : World) : (callMethod (.iface 144 x) "Push" #[y]).run Yba.prog w = .ok (.enter 113 #[x, y]) w := by kernel_rfl
theorem cm_len0 (a : Addr) (w : World) : (callMethod (.iface 144 (.pointer (some a))) "Len" #[]).run Yba.prog w = (do let v ← loadVar 140 a; callFunc 109 (#[v] ++ #[])).run Yba.prog w := by kernel_rfl
theorem cm_less0 (a : Addr) (x y : Value) (w : World) : (callMethod (.iface 144 (.pointer (some a))) "Less" #[x, y]).run Yba.prog w = (do let v ← loadVar 140 a; callFunc 110 (#[v] ++ #[x, y])).run Yba.prog w := by kernel_rfl
theorem cm_swap0 (a : Addr) (x y : Value) (w : World) : (callMethod (.iface 144 (.pointer (some a))) "Swap" #[x, y]).run Yba.prog w = (do let v ← loadVar 140 a; callFunc 111 (#[v] ++ #[x, y])).run Yba.prog w := by kernel_rfl
theorem cf109 (args : Array Value) (w : World) : (callFunc 109 args).run Yba.prog w = .ok (.enter 109 args) w := by kernel_rfl
theorem cf110 (args : Array Value) (w : World) : (callFunc 110 args).run Yba.prog w = .ok (.enter 110 args) w := by kernel_rfl
theorem cf111 (args : Array Value) (w : World) : (callFunc 111 args).run Yba.prog w = .ok (.enter 111 args) w := by kernel_rfl
theorem cm_len (bs : Nat) (v : Value) (w : World) (h : w.cell? ⟨bs, 0, none⟩ = some v) : (callMethod (.iface 144 (.pointer (some ⟨bs, 0, none⟩))) "Len" #[]).run Yba.prog w = .ok (.enter 109 #[v]) w := by
  rw [cm_len0]
  have ha := agg140 w
  simp [loadVar, ha, h, go_sem, cf109]
theorem cm_less (bs : Nat) (v x y : Value) (w : World) (h : w.cell? ⟨bs, 0, none⟩ = some v) : (callMethod (.iface 144 (.pointer (some ⟨bs, 0, none⟩))) "Less" #[x, y]).run Yba.prog w = .ok (.enter 110 #[v, x, y]) w := by
  rw [cm_less0]
  have ha := agg140 w
  simp [loadVar, ha, h, go_sem, cf110]
theorem cm_swap (bs : Nat) (v x y : Value) (w : World) (h : w.cell? ⟨bs, 0, none⟩ = some v) : (callMethod (.iface 144 (.pointer (some ⟨bs, 0, none⟩))) "Swap" #[x, y]).run Yba.prog w = .ok (.enter 111 #[v, x, y]) w := by
  rw [cm_swap0]
  have ha := agg140 w
  simp [loadVar, ha, h, go_sem, cf111]

/-- An ending: when, which task. -/
structure En where
  at_ : Int
  tk : Int
  deriving Inhabited
def encE (x : En) : List Value := [.int .i64 x.at_, .int .i64 x.tk]
theorem encE_len (x : En) : (encE x).length = 2 := rfl
theorem encE_one (x : En) : ∀ v ∈ encE x, v.oneCell' = true := by
  intro v hv
  simp [encE] at hv
  rcases hv with rfl | rfl <;> rfl
/-- The block keeps its length, its type. -/
def Shape (w w' : World) (blk : Nat) : Prop := ∀ cur t z, w.heap[blk]? = some (.cells cur t z) → ∃ cur', w'.heap[blk]? = some (.cells cur' t z) ∧ cur'.size = cur.size
theorem Shape.refl (w : World) (blk : Nat) : Shape w w blk := fun cur t z h => ⟨cur, h, rfl⟩
theorem Shape.trans {a b c : World} {blk : Nat} (h : Shape a b blk) (k : Shape b c blk) : Shape a c blk := fun cur t z e => by
  obtain ⟨c1, h1, h2⟩ := h cur t z e
  obtain ⟨c2, h3, h4⟩ := k c1 t z h1
  exact ⟨c2, h3, h4.trans h2⟩
theorem Shape.set (w : World) (blk : Nat) (a : Addr) (v : Value) : Shape w (w.setCell a v) blk := fun cur t z e => by
  by_cases h : blk = a.block
  · subst h
    by_cases hs : a.spot.isSome = true
    · exact ⟨cur, by simp [World.setCell, Array.getElem?_modify, e, hs], rfl⟩
    · exact ⟨cur.setIfInBounds a.off v, by simp [World.setCell, Array.getElem?_modify, e, hs], by simp⟩
  · exact ⟨cur, by rw [Deep.blk_setCell_other w a v blk h]; exact e, rfl⟩
theorem Shape.sets (blk b : Nat) : ∀ (vs : List Value) (o : Nat) (w : World), Shape w (w.setCells b o vs) blk
  | [], o, w => Shape.refl w blk
  | v :: r, o, w => (Shape.set w blk _ v).trans (Shape.sets blk b r (o + 1) _)
structure TwE (w w' : World) (blk : Nat) (d : Array En) : Prop where
  holds : HoldsK encE 2 w' blk 0 d
  grown : w.grownBy w' (some blk)
  shape : Shape w w' blk
theorem TwE.trans {a b c : World} {blk : Nat} {d d' : Array En} (h : TwE a b blk d) (k : TwE b c blk d') : TwE a c blk d' := ⟨k.holds, h.grown.trans k.grown, h.shape.trans k.shape⟩
theorem TwE.refl {w : World} {blk : Nat} {d : Array En} (h : HoldsK encE 2 w blk 0 d) : TwE w w blk d := ⟨h, ⟨rfl, rfl, rfl, Nat.le_refl _, fun _ _ _ => rfl⟩, Shape.refl _ _⟩
theorem TwE.lt {a b : World} {blk : Nat} {d : Array En} (h : TwE a b blk d) (hb : blk < a.heap.size) : blk < b.heap.size := Nat.lt_of_lt_of_le hb h.grown.size
theorem TwE.cell {a b : World} {blk : Nat} {d : Array En} (h : TwE a b blk d) {x : Addr} {v : Value} (hx : a.cell? x = some v) (hne : x.block ≠ blk) : b.cell? x = some v := by
  rw [World.cell?_of_block (w := a) (h.grown.block _ (World.block_lt_of_cell? a _ hx) (fun e => hne (Option.some.inj e)))]; exact hx

theorem cellE {w : World} {bh i : Nat} {d : Array En} (hH : HoldsK encE 2 w bh 0 d) (hi : i < d.size) : w.cell? ⟨bh, i * 2, none⟩ = some (.int .i64 d[i]!.at_) ∧ w.cell? ⟨bh, i * 2 + 1, none⟩ = some (.int .i64 d[i]!.tk) ∧ w.frozen? ⟨bh, i * 2, none⟩ = false ∧ w.frozen? ⟨bh, i * 2 + 1, none⟩ = false := by
  have z : (flatK encE 2 d).size = d.size * 2 := size_flatK _ _ _
  have h0 := hH (i * 2) (by omega)
  have h1 := hH (i * 2 + 1) (by omega)
  rw [get_flatK encE 2 d _ (by omega)] at h0 h1
  rw [show i * 2 / 2 = i by omega, show i * 2 % 2 = 0 by omega] at h0
  rw [show (i * 2 + 1) / 2 = i by omega, show (i * 2 + 1) % 2 = 1 by omega] at h1
  rw [Nat.zero_add] at h0 h1
  exact ⟨h0.1, h1.1, h0.2, h1.2⟩

/-- (endings).Less -/
theorem less110 (bh n c i j : Nat) (d : Array En) (w : World) (hH : HoldsK encE 2 w bh 0 d) (hn : d.size = n) (hn2 : n ≤ 5000) (hi : i < n) (hj : j < n) :
    Calls Yba.prog 110 #[.slice (some ⟨bh, 0, none⟩) n c, .int .i64 (i : Int), .int .i64 (j : Int)] w fun e w' => e = .returned (.bool (decide (d[i]!.at_ < d[j]!.at_))) ∧ ∃ q, w' = w.drewN q := by
  have mixed := mixedYba
  obtain ⟨ci, _, _, _⟩ := cellE hH (show i < d.size by omega)
  obtain ⟨cj, _, _, _⟩ := cellE hH (show j < d.size by omega)
  generalize d[i]! = x at *
  generalize d[j]! = y at *
  have zi : (i : Int) < (n : Int) := by omega
  have zj : (j : Int) < (n : Int) := by omega
  clear hH hn
  go_enter Yba.func110, Yba.ntmps110
  go_wp2_with fail
  go_quiet (fail)
  go_wp2
  go_ret
  exact ⟨rfl, _, rfl⟩
/-- What a walk needs where two endings change places. -/
structure SwapE (K : Nat) (wr : World) (blk : Nat) (dk : Array En) (i j : Nat) (ci cj : List Value) : Prop where
  li : Sem.run Yba.prog (loadCellsFrom ⟨blk, i * K, none⟩ 0 K #[]) wr.drew = .ok ci.toArray wr.drew
  lj : Sem.run Yba.prog (loadCellsFrom ⟨blk, j * K, none⟩ 0 K #[]) wr.drew = .ok cj.toArray wr.drew
  s1 : Sem.run Yba.prog (storeCells ⟨blk, i * K, none⟩ cj 0) wr.drew = .ok () (wr.drew.setCells blk (i * K) cj)
  s2 : Sem.run Yba.prog (storeCells ⟨blk, j * K, none⟩ ci 0) (wr.drew.setCells blk (i * K) cj) = .ok () ((wr.drew.setCells blk (i * K) cj).setCells blk (j * K) ci)
  hi : ci.length = K
  hj : cj.length = K
  tw : TwE wr ((wr.drew.setCells blk (i * K) cj).setCells blk (j * K) ci) blk (swp dk i j)
theorem swapE_facts (K : Nat) (hK : K = 2) (wr : World) (blk : Nat) (dk : Array En) (i j : Nat) (hH : HoldsK encE 2 wr blk 0 dk) (hblk : blk < wr.heap.size) (hi : i < dk.size) (hj : j < dk.size) : ∃ ci cj, SwapE K wr blk dk i j ci cj := by
  subst hK
  have bnd : ∀ x, x < dk.size → x * 2 + 2 ≤ dk.size * 2 := fun x hx => by omega
  have hHd : HoldsK encE 2 wr.drew blk 0 dk := hH
  have li := run_loadCellsFrom_list Yba.prog _ _ _ 2 (encE_len _) (HoldsK.cells hHd encE_len hi)
  have lj := run_loadCellsFrom_list Yba.prog _ _ _ 2 (encE_len _) (HoldsK.cells hHd encE_len hj)
  have s1 := stores_of_holds Yba.prog hHd (i * 2) (encE dk[j]!) (by rw [encE_len, size_flatK]; exact bnd _ hi) (encE_one _)
  have s2 := stores_of_holds Yba.prog (holds_setCells_c hHd (i * 2) (encE dk[j]!) (by rw [encE_len, size_flatK]; exact bnd _ hi)) (j * 2) (encE dk[i]!) (by rw [encE_len, size_setMany, size_flatK]; exact bnd _ hj) (encE_one _)
  simp only [Nat.zero_add] at li lj s1 s2
  refine ⟨encE dk[i]!, encE dk[j]!, li, lj, s1, s2, rfl, rfl, ?_⟩
  have e : (wr.drew.setCells blk (i * 2) (encE dk[j]!)).setCells blk (j * 2) (encE dk[i]!) = sortWorldK encE 2 wr blk 0 1 (swp dk i j) #[] := by
    have h0 : wr = sortWorldK encE 2 wr blk 0 0 dk #[] := by unfold sortWorldK; rw [grow_empty]; exact (putRowK_self encE 2 wr blk 0 dk hH).symm
    have := sortWorldK_swp_c encE 2 wr blk 0 encE_len 0 dk #[] hblk i j hi hj
    rw [← h0] at this
    simpa only [Nat.zero_add] using this
  have hsh : Shape wr ((wr.drew.setCells blk (i * 2) (encE dk[j]!)).setCells blk (j * 2) (encE dk[i]!)) blk := (Shape.sets blk blk _ _ wr.drew).trans (Shape.sets blk blk _ _ _)
  refine ⟨?_, ?_, hsh⟩ <;> rw [e]
  · exact holdsK_sortWorldK_c encE 2 wr blk 0 dk _ _ _ hH hblk (size_swp _ _ _)
  refine ⟨rfl, rfl, rfl, size_sortWorldK_c encE 2 wr blk 0 1 _ #[], fun k hk hne => ?_⟩
  have hne' : blk ≠ k := fun e => hne (by rw [e])
  unfold sortWorldK grow
  show (((putRowK encE 2 (Sort.ahead wr 1) blk 0 (swp dk i j)).heap ++ #[]) : Array Obj)[k]? = _
  rw [Array.append_empty]
  unfold putRowK putRow mapBlock
  simp [Array.getElem?_modify, hne', Sort.ahead]
  rfl
set_option maxRecDepth 100000 in
theorem swap111_k (K : Nat) (hK : Hid (K = 2)) (zE : ∀ w, (Go.sizeOf 142).run Yba.prog w = .ok K w) (bh n c i j : Nat) (d : Array En) (w : World) (hH : HoldsK encE 2 w bh 0 d) (hblk : bh < w.heap.size) (hn : Hid (d.size = n)) (hn2 : n ≤ 5000) (hi : i < n) (hj : j < n) :
    Calls Yba.prog 111 #[.slice (some ⟨bh, 0, none⟩) n c, .int .i64 (i : Int), .int .i64 (j : Int)] w fun e w' => e = .returned (.tuple #[]) ∧ TwE w w' bh (swp d i j) := by
  have mixed := mixedYba
  have aE := agg142
  obtain ⟨ci, cj, sf⟩ := swapE_facts K hK.out w bh d i j hH hblk (by rw [hn.out]; exact hi) (by rw [hn.out]; exact hj)
  obtain ⟨li, lj, s1, s2, hli, hlj, htw⟩ := sf
  have HTw : Hid _ := htw
  have zi : (i : Int) < (n : Int) := by omega
  have zj : (j : Int) < (n : Int) := by omega
  clear htw hH
  go_enter Yba.func111, Yba.ntmps111
  go_wp2_with fail
  go_big_region_o
  all_goals go_wp2
  go_end0
  exact ⟨rfl, HTw.out⟩
theorem swap111 (bh n c i j : Nat) (d : Array En) (w : World) (hH : HoldsK encE 2 w bh 0 d) (hblk : bh < w.heap.size) (hn : d.size = n) (hn2 : n ≤ 5000) (hi : i < n) (hj : j < n) :
    Calls Yba.prog 111 #[.slice (some ⟨bh, 0, none⟩) n c, .int .i64 (i : Int), .int .i64 (j : Int)] w fun e w' => e = .returned (.tuple #[]) ∧ TwE w w' bh (swp d i j) :=
  swap111_k 2 rfl size142 bh n c i j d w hH hblk hn hn2 hi hj

/-! ### The heap, plainly -/
def Hp (n : Nat) (d : Array En) : Prop := ∀ k, 0 < k → k < n → d[(k - 1) / 2]!.at_ ≤ d[k]!.at_
/-- j is on its way up. -/
structure Up (n j : Nat) (d : Array En) : Prop where
  rest : ∀ k, 0 < k → k < n → k ≠ j → d[(k - 1) / 2]!.at_ ≤ d[k]!.at_
  kids : ∀ k, 0 < k → k < n → (k - 1) / 2 = j → 0 < j → d[(j - 1) / 2]!.at_ ≤ d[k]!.at_
theorem Up.done0 {n : Nat} {d : Array En} (h : Up n 0 d) : Hp n d := fun k h1 h2 => h.rest k h1 h2 (by omega)
theorem Up.done {n j : Nat} {d : Array En} (h : Up n j d) (hx : ¬ d[j]!.at_ < d[(j - 1) / 2]!.at_) : Hp n d := fun k h1 h2 => by
  by_cases e : k = j
  · subst e; omega
  · exact h.rest k h1 h2 e
theorem swp_facts {d : Array En} {i j : Nat} (hi : i < d.size) (hj : j < d.size) (hne : i ≠ j) : (swp d i j)[i]! = d[j]! ∧ (swp d i j)[j]! = d[i]! ∧ ∀ k, k ≠ i → k ≠ j → (swp d i j)[k]! = d[k]! := by
  refine ⟨?_, ?_, fun k h1 h2 => ?_⟩
  · rw [swp_get d hi hj, if_neg hne, if_pos rfl]
  · rw [swp_get d hi hj, if_pos rfl]
  · rw [swp_get d hi hj, if_neg h2, if_neg h1]
theorem Up.step {n j i : Nat} {d : Array En} (hn : n = d.size) (h : Up n j d) (hi : i = (j - 1) / 2) (hj : 0 < j) (hjn : j < n) (hx : d[j]!.at_ < d[i]!.at_) : Up n i (swp d i j) := by
  obtain ⟨gi, gj, go⟩ := swp_facts (d := d) (show i < d.size by omega) (show j < d.size by omega) (by omega)
  refine ⟨fun k h1 h2 h3 => ?_, fun k h1 h2 h3 h4 => ?_⟩
  · by_cases e1 : k = j
    · rw [e1, gj, ← hi, gi]; omega
    · rw [go k h3 e1]
      have hr := h.rest k h1 h2 e1
      by_cases e2 : (k - 1) / 2 = i
      · rw [e2] at hr ⊢; rw [gi]; omega
      · by_cases e3 : (k - 1) / 2 = j
        · have := h.kids k h1 h2 e3 hj
          rw [e3, gj, hi]; exact this
        · rw [go _ e2 e3]; exact hr
  · have hp := h.rest i h4 (by omega) (by omega)
    rw [go ((i - 1) / 2) (by omega) (by omega)]
    by_cases e1 : k = j
    · rw [e1, gj]; exact hp
    · rw [go k (by omega) e1]
      have := h.rest k h1 h2 e1
      rw [h3] at this; omega
/-- i is on its way down. -/
structure Dn (n i : Nat) (d : Array En) : Prop where
  rest : ∀ k, 0 < k → k < n → (k - 1) / 2 ≠ i → d[(k - 1) / 2]!.at_ ≤ d[k]!.at_
  kids : ∀ k, 0 < k → k < n → (k - 1) / 2 = i → 0 < i → d[(i - 1) / 2]!.at_ ≤ d[k]!.at_
theorem Dn.done {n i : Nat} {d : Array En} (h : Dn n i d) (hx : ∀ k, 0 < k → k < n → (k - 1) / 2 = i → d[i]!.at_ ≤ d[k]!.at_) : Hp n d := fun k h1 h2 => by
  by_cases e : (k - 1) / 2 = i
  · rw [e]; exact hx k h1 h2 e
  · exact h.rest k h1 h2 e
theorem Dn.step {n i j : Nat} {d : Array En} (hn : n ≤ d.size) (h : Dn n i d) (hj0 : 0 < j) (hji : (j - 1) / 2 = i) (hjn : j < n) (hx : d[j]!.at_ < d[i]!.at_) (hmin : ∀ k, 0 < k → k < n → (k - 1) / 2 = i → d[j]!.at_ ≤ d[k]!.at_) : Dn n j (swp d i j) := by
  obtain ⟨gi, gj, go⟩ := swp_facts (d := d) (show i < d.size by omega) (show j < d.size by omega) (by omega)
  refine ⟨fun k h1 h2 h3 => ?_, fun k h1 h2 h3 h4 => ?_⟩
  · by_cases e1 : (k - 1) / 2 = i
    · rw [e1, gi]
      by_cases e2 : k = j
      · rw [e2, gj]; omega
      · rw [go k (by omega) e2]; exact hmin k h1 h2 e1
    · rw [go _ e1 h3]
      by_cases e2 : k = i
      · rw [e2, gi]
        exact h.kids j hj0 hjn hji (by omega)
      · rw [go k e2 (by omega)]; exact h.rest k h1 h2 e1
  · rw [hji, gi, go k (by omega) (by omega)]
    have := h.rest k h1 h2 (by omega)
    rw [h3] at this; exact this
end Go.Proofs.Ybulkdpsg

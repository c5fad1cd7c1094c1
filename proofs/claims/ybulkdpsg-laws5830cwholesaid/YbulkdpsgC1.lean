/- S5830C: THE TASKS' ROW; slices.swapRangeCmpFunc, slices.rotateCmpFunc. -/
import Derived.Test.YbulkdpsgRows
import Derived.WalkKit
import Derived.WalkSpells
import Derived.WalkLawsBesides
import Derived.ProofKit
import Derived.Shelf.SlSortCmp.InsertionK
import Derived.Shelf.SlicesQ.Reverse
import Derived.Shelf.RegionOpenPlain
namespace Go.Proofs.Ybulkdpsg
open Go Go.RowKit Go.Sort Go.Proofs Go.Lib
set_option linter.unusedVariables false

/-- A task as the replay sees it. -/
structure Tk where
  row : Int
  job : Int
  key : Int
  dur : Int
  arr : Int
  deriving Inhabited
def encT (x : Tk) : List Value := [.int .i64 x.row, .int .i64 x.job, .int .i64 x.key, .int .i64 x.dur, .int .i64 x.arr]
theorem encT_len (x : Tk) : (encT x).length = 5 := rfl
theorem encT_one (x : Tk) : ∀ v ∈ encT x, v.oneCell' = true := by
  intro v hv
  simp [encT] at hv
  rcases hv with rfl | rfl | rfl | rfl | rfl <;> rfl
theorem agg105 (w : World) : (isAgg 105).run Yba.prog w = .ok true w := by kernel_rfl
theorem size105 (w : World) : (Go.sizeOf 105).run Yba.prog w = .ok 5 w := by kernel_rfl

theorem mixedYba : Yba.prog.follows .mixedOrders = true := by kernel_rfl

/-- The world, the tasks' row holding d. -/
abbrev tw (w : World) (blk m : Nat) (d : Array Tk) (os : Array Obj) : World := sortWorldK encT 5 w blk 0 m d os

/-- 'for i := 0; i < n; i++ { data[a+i], data[b+i] = data[b+i], data[a+i] }'. -/
def swapR (d : Array Tk) (a b : Nat) : Nat → Array Tk
  | 0 => d
  | n + 1 => swp (swapR d a b n) (a + n) (b + n)
theorem swapR_size (d : Array Tk) (a b n : Nat) : (swapR d a b n).size = d.size := by
  induction n with
  | zero => rfl
  | succ n ih => simp only [swapR, size_swp, ih]

set_option maxHeartbeats 4000000 in
set_option maxRecDepth 1000000 in
theorem swapRange_k (K : Nat) (zE : ∀ w, (Go.sizeOf 105).run Yba.prog w = .ok K w) (hKl : Hid (∀ x, (encT x).length = K)) (blk cap a b n : Nat) (d : Array Tk) (fv : Value) (w : World) (hH : HoldsK encT K w blk 0 d) (hblk : blk < w.heap.size) (ha : a + n ≤ d.size) (hb : b + n ≤ d.size) (hsz : d.size ≤ 2048) :
    Calls Yba.prog 71 #[.slice (some ⟨blk, 0, none⟩) d.size cap, .int .i64 (a : Int), .int .i64 (b : Int), .int .i64 (n : Int), fv] w fun e w' => e = .returned (.tuple #[]) ∧ ∃ q, w' = sortWorldK encT K w blk 0 q (swapR d a b n) #[] := by
  have mixed := mixedYba
  have aE := agg105
  have HH : Hid (HoldsK encT K w blk 0 d) := hH
  have HST : Hid (w = sortWorldK encT K w blk 0 0 d #[]) := by show w = _; unfold sortWorldK; rw [grow_empty]; exact (putRowK_self encT K w blk 0 d hH).symm
  clear hH
  go_enter Yba.func71, Yba.ntmps71
  go_wp2
  go_loopw [10] (fun i wr => ∃ (k q : Nat), k ≤ n ∧ i = .int .i64 (k : Int) ∧ wr = sortWorldK encT K w blk 0 q (swapR d a b k) #[]) (fun i _ => n - (intOf i).toNat)
  case atStart => exact ⟨0, 0, Nat.zero_le _, rfl, HST.out⟩
  case round =>
    obtain ⟨k, q, hk, rfl, hwr⟩ := hrel
    by_cases hlt : k < n
    · have hds := swapR_size d a b k
      obtain ⟨dk, hdk⟩ : ∃ dk, dk = swapR d a b k := ⟨_, rfl⟩
      rw [← hdk] at hwr hds
      have hHd : HoldsK encT K wr.drew blk 0 dk := by rw [hwr]; exact holdsK_sortWorldK_c encT K w blk 0 d dk _ _ HH.out hblk hds
      have bnd : ∀ x, x < dk.size → x * K + K ≤ dk.size * K := fun x hx => by
        have := Nat.mul_le_mul_right K (show x + 1 ≤ dk.size from hx); rwa [Nat.add_mul, Nat.one_mul] at this
      have li : Sem.run Yba.prog (loadCellsFrom ⟨blk, 0 + (a + k) * K, none⟩ 0 K #[]) wr.drew = .ok (encT dk[a + k]!).toArray wr.drew := run_loadCellsFrom_list Yba.prog _ _ _ K (hKl.out _) (HoldsK.cells hHd hKl.out (by omega))
      have lj : Sem.run Yba.prog (loadCellsFrom ⟨blk, 0 + (b + k) * K, none⟩ 0 K #[]) wr.drew = .ok (encT dk[b + k]!).toArray wr.drew := run_loadCellsFrom_list Yba.prog _ _ _ K (hKl.out _) (HoldsK.cells hHd hKl.out (by omega))
      have s1 : Sem.run Yba.prog (storeCells ⟨blk, 0 + (a + k) * K, none⟩ (encT dk[b + k]!) 0) wr.drew = .ok () (wr.drew.setCells blk (0 + (a + k) * K) (encT dk[b + k]!)) := stores_of_holds Yba.prog hHd ((a + k) * K) _ (by rw [hKl.out, size_flatK]; exact bnd _ (by omega)) (encT_one _)
      have s2 : Sem.run Yba.prog (storeCells ⟨blk, 0 + (b + k) * K, none⟩ (encT dk[a + k]!) 0) (wr.drew.setCells blk (0 + (a + k) * K) (encT dk[b + k]!)) = .ok () ((wr.drew.setCells blk (0 + (a + k) * K) (encT dk[b + k]!)).setCells blk (0 + (b + k) * K) (encT dk[a + k]!)) :=
        stores_of_holds Yba.prog (holds_setCells_c hHd ((a + k) * K) _ (by rw [hKl.out, size_flatK]; exact bnd _ (by omega))) ((b + k) * K) _ (by rw [hKl.out, size_setMany, size_flatK]; exact bnd _ (by omega)) (encT_one _)
      simp only [Nat.zero_add] at li lj s1 s2
      have A : Aside (wr = sortWorldK encT K w blk 0 q dk #[]) := hwr
      have DK : Hid (dk = swapR d a b k) := hdk
      have hsI : (encT dk[a + k]!).length = K := hKl.out _
      have hsJ : (encT dk[b + k]!).length = K := hKl.out _
      clear hwr hHd bnd hdk
      obtain ⟨ci, hci⟩ : ∃ c, c = encT dk[a + k]! := ⟨_, rfl⟩
      obtain ⟨cj, hcj⟩ : ∃ c, c = encT dk[b + k]! := ⟨_, rfl⟩
      rw [← hcj] at s1
      rw [← hci, ← hcj] at s2
      rw [← hci] at li hsI
      rw [← hcj] at lj hsJ
      have CI : Hid (ci = encT dk[a + k]! ∧ cj = encT dk[b + k]!) := ⟨hci, hcj⟩
      clear hci hcj
      go_wp2_with fail
      go_big_region_o
      all_goals go_wp2
      go_roundw
      case rel =>
        refine ⟨k + 1, q + 1, by omega, by go_num, ?_⟩
        rw [CI.out.1, CI.out.2, A.out]
        have e := sortWorldK_swp_c encT K w blk 0 hKl.out q dk #[] hblk (a + k) (b + k) (by omega) (by omega)
        simp only [Nat.zero_add] at e
        rw [e]
        show _ = sortWorldK encT K w blk 0 (q + 1) (swp (swapR d a b k) (a + k) (b + k)) #[]
        rw [← DK.out]
      case measure => simp [intOf]; omega
    · obtain rfl : k = n := by omega
      go_wp2
      go_end0
      exact ⟨rfl, q, rfl⟩
theorem swapRange (blk cap a b n : Nat) (d : Array Tk) (fv : Value) (w : World) (hH : HoldsK encT 5 w blk 0 d) (hblk : blk < w.heap.size) (ha : a + n ≤ d.size) (hb : b + n ≤ d.size) (hsz : d.size ≤ 2048) :
    Calls Yba.prog 71 #[.slice (some ⟨blk, 0, none⟩) d.size cap, .int .i64 (a : Int), .int .i64 (b : Int), .int .i64 (n : Int), fv] w fun e w' => e = .returned (.tuple #[]) ∧ ∃ q, w' = tw w blk q (swapR d a b n) #[] :=
  swapRange_k 5 size105 encT_len blk cap a b n d fv w hH hblk ha hb hsz
end Go.Proofs.Ybulkdpsg

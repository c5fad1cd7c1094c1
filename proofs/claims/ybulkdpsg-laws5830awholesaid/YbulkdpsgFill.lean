/- THE LAW'S OWN FUNCTION. -/
import Derived.Test.YbulkdpsgCompare
import Derived.Deep.OwnRows
namespace Go.Proofs.Ybulkdpsg
open Go Go.RowKit
set_option linter.unusedVariables false

theorem Yba.info28 : (Yba.prog.info? 28).map (fun i => (i.zero, i.size, i.bytes)) = some (some (.int .u64 0), 1, 8) := by kernel_rfl
theorem Yba.info23 : (Yba.prog.info? 23).map (fun i => (i.zero, i.size, i.bytes)) = some (some (.float .f64 0), 1, 8) := by kernel_rfl
theorem Yba.info21 : (Yba.prog.info? 21).map (fun i => (i.zero, i.size, i.bytes)) = some (some (.int .i32 0), 1, 4) := by kernel_rfl

/-- The candidates that came in. -/
def Cs (w : World) (ad : Option Addr) (n : Nat) (ne ls : Nat → Nat) (hv : Nat → Int) : Prop :=
  ∀ k, k < n → ∃ b off, ad = some ⟨b, off, none⟩ ∧ b < w.heap.size ∧ w.cell? ⟨b, off + k * 3, none⟩ = some (.int .u64 (ne k : Int)) ∧ w.cell? ⟨b, off + k * 3 + 1, none⟩ = some (.float .f64 (ls k)) ∧ w.cell? ⟨b, off + k * 3 + 2, none⟩ = some (.int .i32 (hv k)) ∧ ne k < 18446744073709551616 ∧ ls k < 18446744073709551616
/-- The three rows, filled up to k. -/
structure Fill (wr : World) (B m k : Nat) (ne ls : Nat → Nat) (hv : Nat → Int) : Prop where
  n : wr.rowIs B 28 m (fun j => .int .u64 ((if j < k then ne j else 0 : Nat) : Int))
  l : wr.rowIs (B + 1) 23 m (fun j => .float .f64 (if j < k then ls j else 0))
  h : wr.rowIs (B + 1 + 1) 21 m (fun j => .int .i32 (if j < k then hv j else 0))
theorem Fill.step {wr : World} {B m k : Nat} {ne ls : Nat → Nat} {hv : Nat → Int} (F : Fill wr B m k ne ls hv) :
    Fill (((wr.setCell ⟨B, k, none⟩ (.int .u64 (ne k : Int))).setCell ⟨B + 1, k, none⟩ (.float .f64 (ls k))).setCell ⟨B + 1 + 1, k, none⟩ (.int .i32 (hv k))) B m (k + 1) ne ls hv := by
  refine ⟨?_, ?_, ?_⟩
  · refine (((F.n.set k _).setOther (by simp) _).setOther (by simp; omega) _).congr fun j _ => ?_
    show (if j = k then _ else _) = _
    split
    · rename_i e; subst e; rw [if_pos (by omega)]
    · rename_i e
      by_cases h : j < k
      · rw [if_pos h, if_pos (by omega)]
      · rw [if_neg h, if_neg (by omega)]
  · refine (((F.l.setOther (by simp) _).set k _).setOther (by simp) _).congr fun j _ => ?_
    show (if j = k then _ else _) = _
    split
    · rename_i e; subst e; rw [if_pos (by omega)]
    · rename_i e
      by_cases h : j < k
      · rw [if_pos h, if_pos (by omega)]
      · rw [if_neg h, if_neg (by omega)]
  · refine (((F.h.setOther (by simp; omega) _).setOther (by simp) _).set k _).congr fun j _ => ?_
    show (if j = k then _ else _) = _
    split
    · rename_i e; subst e; rw [if_pos (by omega)]
    · rename_i e
      by_cases h : j < k
      · rw [if_pos h, if_pos (by omega)]
      · rw [if_neg h, if_neg (by omega)]
theorem Fill.made (w : World) (m : Nat) (ne ls : Nat → Nat) (hv : Nat → Int) :
    Fill (((w.alloc (.cells (madeCells #[.int .u64 0] m) 28)).alloc (.cells (madeCells #[.float .f64 0] m) 23)).alloc (.cells (madeCells #[.int .i32 0] m) 21)) w.heap.size m 0 ne ls hv := by
  refine ⟨?_, ?_, ?_⟩
  · exact (((World.rowIs_made w _ m 28).alloc _).alloc _).congr fun j _ => by simp
  · have := World.rowIs_made (w.alloc (.cells (madeCells #[.int .u64 0] m) 28)) (.float .f64 0) m 23
    have e : (w.alloc (.cells (madeCells #[.int .u64 0] m) 28)).heap.size = w.heap.size + 1 := by simp
    rw [e] at this
    exact (this.alloc _).congr fun j _ => by simp
  · have := World.rowIs_made ((w.alloc (.cells (madeCells #[.int .u64 0] m) 28)).alloc (.cells (madeCells #[.float .f64 0] m) 23)) (.int .i32 0) m 21
    have e : ((w.alloc (.cells (madeCells #[.int .u64 0] m) 28)).alloc (.cells (madeCells #[.float .f64 0] m) 23)).heap.size = w.heap.size + 1 + 1 := by simp
    rw [e] at this
    exact this.congr fun j _ => by simp


theorem fop_lt (op : BinOp) (s u : Nat) : fop op s u < 18446744073709551616 := by
  unfold fop
  cases e : floatBits op .f64 s u with
  | some r => exact some_lt e
  | none => exact QN_nan.1
/-- The bounds of one candidate, whatever is drawn. -/
theorem bounds_exist (inv le na la nc lc : Nat) (sign hv : Int) : ∃ X V B z s1 s2, X = ratX na nc inv ∧ V = ratV X la lc ∧ B = ratB X la lc le ∧ z = zF sign V ∧ Sh20 (fop .sub z B) 13830554455654793216 sign hv s1 ∧ Sh27 (fop .sub z B) 13830554455654793216 sign hv s1 ∧ Sh20 (fop .add z B) 4607182418800017408 sign hv s2 ∧ Sh27 (fop .add z B) 4607182418800017408 sign hv s2 := by
  obtain ⟨X, hX⟩ : ∃ X, X = ratX na nc inv := ⟨_, rfl⟩
  obtain ⟨V, hV⟩ : ∃ V, V = ratV X la lc := ⟨_, rfl⟩
  obtain ⟨B, hB⟩ : ∃ B, B = ratB X la lc le := ⟨_, rfl⟩
  obtain ⟨z, hz⟩ : ∃ z, z = zF sign V := ⟨_, rfl⟩
  obtain ⟨s1, h1, h1'⟩ := share_both (fop .sub z B) 13830554455654793216 (fop_lt _ _ _) (Rel.refl (by decide)) sign hv
  obtain ⟨s2, h2, h2'⟩ := share_both (fop .add z B) 4607182418800017408 (fop_lt _ _ _) (Rel.refl (by decide)) sign hv
  exact ⟨X, V, B, z, s1, s2, hX, hV, hB, hz, h1, h1', h2, h2'⟩

/-- What the law's calls are told of a world. -/
structure Told (w : World) (sb nb lb hb m inv le : Nat) (sign : Int) (ia ib ir : Nat) (ne ls : Nat → Nat) (hv : Nat → Int) : Prop where
  sc : Sc w sb nb lb hb m inv le sign ir
  ca : Cd w nb lb hb ia (ne ia) (ls ia) (hv ia)
  cb : Cd w nb lb hb ib (ne ib) (ls ib) (hv ib)
  cr : Cd w nb lb hb ir (ne ir) (ls ir) (hv ir)
theorem Told.kept {w w' : World} (h : Below w.heap.size w w') {sb nb lb hb m inv le : Nat} {sign : Int} {ia ib ir : Nat} {ne ls : Nat → Nat} {hv : Nat → Int} (T : Told w sb nb lb hb m inv le sign ia ib ir ne ls hv) : Told w' sb nb lb hb m inv le sign ia ib ir ne ls hv :=
  ⟨T.sc.kept h, T.ca.kept h, T.cb.kept h, T.cr.kept h⟩
/-- What both sides' bounds are: one pair for each of the two. -/
theorem calls_exist (sb nb lb hb m inv le : Nat) (sign : Int) (ia ib ir : Nat) (ne ls : Nat → Nat) (hv : Nat → Int) (hinv : Rel inv inv) (hle : Rel le le) (hia : ia < m) (hib : ib < m) (hir : ir < m) : ∃ s1 s2 t1 t2,
    (∀ w, Told w sb nb lb hb m inv le sign ia ib ir ne ls hv → Calls Yba.prog 5 #[.pointer (some ⟨sb, 0, none⟩), .int .i64 (ia : Int), .int .i64 (ib : Int)] w fun e w' => e = .returned (.int .i64 (cmpF s1 s2 t1 t2)) ∧ Below w.heap.size w w') ∧
    (∀ w, Told w sb nb lb hb m inv le sign ia ib ir ne ls hv → Calls Yba.prog 6 #[.slice (some ⟨nb, 0, none⟩) m m, .slice (some ⟨lb, 0, none⟩) m m, .slice (some ⟨hb, 0, none⟩) m m, .float .f64 inv, .float .f64 le, .int .i64 sign, .int .i64 (ia : Int), .int .i64 (ir : Int)] w fun e w' => ∃ p q n, e = .returned (.tuple #[.float .f64 p, .float .f64 q]) ∧ Rel p s1 ∧ Rel q s2 ∧ w' = w.drewN n) ∧
    (∀ w, Told w sb nb lb hb m inv le sign ia ib ir ne ls hv → Calls Yba.prog 6 #[.slice (some ⟨nb, 0, none⟩) m m, .slice (some ⟨lb, 0, none⟩) m m, .slice (some ⟨hb, 0, none⟩) m m, .float .f64 inv, .float .f64 le, .int .i64 sign, .int .i64 (ib : Int), .int .i64 (ir : Int)] w fun e w' => ∃ p q n, e = .returned (.tuple #[.float .f64 p, .float .f64 q]) ∧ Rel p t1 ∧ Rel q t2 ∧ w' = w.drewN n) := by
  obtain ⟨X, V, B, z, s1, s2, hX, hV, hB, hz, h1, h1', h2, h2'⟩ := bounds_exist inv le (ne ia) (ls ia) (ne ir) (ls ir) sign (hv ia)
  obtain ⟨Y, U, D, y, t1, t2, gX, gV, gB, gz, g1, g1', g2, g2'⟩ := bounds_exist inv le (ne ib) (ls ib) (ne ir) (ls ir) sign (hv ib)
  refine ⟨s1, s2, t1, t2, fun w T => ?_, fun w T => ?_, fun w T => ?_⟩
  · exact compare_ok w (fun w => Told w sb nb lb hb m inv le sign ia ib ir ne ls hv) T (fun w' h => T.kept h)
      (fun w T => logshare w T.sc hinv hle hia hir T.ca T.cr X V B z s1 s2 hX hV hB hz h1' h2')
      (fun w T => logshare w T.sc hinv hle hib hir T.cb T.cr Y U D y t1 t2 gX gV gB gz g1' g2')
  · exact abounds w hinv hle hia hir T.ca T.cr X V B z s1 s2 hX hV hB hz h1 h2
  · exact abounds w hinv hle hib hir T.cb T.cr Y U D y t1 t2 gX gV gB gz g1 g2
end Go.Proofs.Ybulkdpsg

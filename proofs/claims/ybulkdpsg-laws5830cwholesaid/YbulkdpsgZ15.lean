/- S5830C: the law: the rows that it makes ahead of its model: plain. -/
import Derived.Test.YbulkdpsgZ14
namespace Go.Proofs.Ybulkdpsg
open Go Go.RowKit Go.Sort Go.Proofs Go.Lib
set_option linter.unusedVariables false
set_option linter.unusedSimpArgs false
/-- The rows that were drawn. -/
def Ts (w : World) (ad : Option Addr) (n : Nat) (tj td ta tk : Nat → Nat) : Prop :=
  ∀ i, i < n → ∃ b off, ad = some ⟨b, off, none⟩ ∧ b < w.heap.size ∧ w.cell? ⟨b, off + i * 4, none⟩ = some (.int .u8 (tj i : Int)) ∧ w.cell? ⟨b, off + i * 4 + 1, none⟩ = some (.int .u16 (td i : Int)) ∧ w.cell? ⟨b, off + i * 4 + 2, none⟩ = some (.int .u16 (ta i : Int)) ∧ w.cell? ⟨b, off + i * 4 + 3, none⟩ = some (.int .u8 (tk i : Int)) ∧ tj i < 256 ∧ td i < 65536 ∧ ta i < 65536 ∧ tk i < 256
def z54 : Array Value := #[.int .i64 0, .int .i64 0, .int .i64 0, .string ⟨#[]⟩]
theorem i54z : (Yba.prog.info? 54).map (fun i => (i.zero.map Value.cells, i.size, i.bytes)) = some (some z54, 4, 40) := by kernel_rfl
theorem i44z : (Yba.prog.info? 44).map (fun i => (i.zero, i.size, i.bytes)) = some (some (.int .i64 0), 1, 8) := by kernel_rfl
theorem mk46 (n : Nat) (hn : n ≤ 5000) (w : World) : (Instr.makeSlice 46 (.int .i64 (n : Int)) (.int .i64 (n : Int))).run Yba.prog w = .ok (.slice (some ⟨w.heap.size, 0, none⟩) n n) (w.alloc (.cells (madeCells #[.string ⟨#[]⟩] n) 9)) := run_make_row' 46 9 (.string ⟨#[]⟩) 16 Yba.underlying46 info9 rfl _ _ n (by omega) (by omega) w
theorem mk49 (n : Nat) (hn : n ≤ 5000) (w : World) : (Instr.makeSlice 49 (.int .i64 (n : Int)) (.int .i64 (n : Int))).run Yba.prog w = .ok (.slice (some ⟨w.heap.size, 0, none⟩) n n) (w.alloc (.cells (madeCells #[.int .i64 0] n) 44)) := run_make_row' 49 44 (.int .i64 0) 8 Yba.underlying49 i44z rfl _ _ n (by omega) (by omega) w
theorem mk50 (n : Nat) (hn : n ≤ 5000) (w : World) : (Instr.makeSlice 50 (.int .i64 (n : Int)) (.int .i64 (n : Int))).run Yba.prog w = .ok (.slice (some ⟨w.heap.size, 0, none⟩) n n) (w.alloc (.cells (madeCells z54 (n * 4)) 54)) := run_makeK 50 54 z54 4 40 Yba.underlying50 i54z n (by omega) (by omega) w
theorem agg52 (w : World) : (isAgg 52).run Yba.prog w = .ok true w := by kernel_rfl
theorem size52 (w : World) : (Go.sizeOf 52).run Yba.prog w = .ok 4 w := by kernel_rfl
theorem agg57 (w : World) : (isAgg 57).run Yba.prog w = .ok true w := by kernel_rfl
theorem size57 (w : World) : (Go.sizeOf 57).run Yba.prog w = .ok 2 w := by kernel_rfl
theorem agg60 (w : World) : (isAgg 60).run Yba.prog w = .ok true w := by kernel_rfl
theorem size60 (w : World) : (Go.sizeOf 60).run Yba.prog w = .ok 8 w := by kernel_rfl
/-- A row filled up to i. -/
def upto (i : Nat) (f : Nat → Nat) (p : Nat) : Value := if p < i then .int .i64 (f p : Int) else .int .i64 0
theorem upto_set {w : World} {b t n i : Nat} {f : Nat → Nat} (h : w.rowIs b t n (upto i f)) {x : Int} (hx : x = (f i : Int)) : (w.setCell ⟨b, i, none⟩ (.int .i64 x)).rowIs b t n (upto (i + 1) f) := by
  refine (h.set i _).congr fun p hp => ?_
  unfold upto
  by_cases e : p = i
  · subst e; rw [if_pos rfl, if_pos (by omega), hx]
  · rw [if_neg e]
    by_cases e2 : p < i
    · rw [if_pos e2, if_pos (by omega)]
    · rw [if_neg e2, if_neg (by omega)]
theorem upto_made {w : World} {b t n : Nat} {f : Nat → Nat} (h : w.rowIs b t n (fun _ => .int .i64 0)) : w.rowIs b t n (upto 0 f) := h.congr fun p hp => by unfold upto; rw [if_neg (by omega)]
theorem upto_full {w : World} {b t n : Nat} {f : Nat → Nat} (h : w.rowIs b t n (upto n f)) : w.rowIs b t n (fun i => .int .i64 (f i : Int)) := h.congr fun p hp => by unfold upto; rw [if_pos hp]
/-- The tasks' row filled up to i. -/
def tkU (X : Inp) (i c : Nat) : Value := if c < i * 4 then tkF X.job X.key X.dur X.arr c else z54[c % 4]!
/-- What stands while the rows are filled. -/
structure Pr (X : Inp) (w wr : World) (B i : Nat) : Prop where
  fr : Fr [] w wr
  b : w.heap.size = B
  sz : B + 6 ≤ wr.heap.size
  J : wr.rowIs B 9 X.nJ (fun j => .string (jobB j))
  j : wr.rowIs (B + 1) 3 X.n (upto i X.job)
  k : wr.rowIs (B + 2) 3 X.n (upto i X.key)
  d : wr.rowIs (B + 3) 44 X.n (upto i X.dur)
  a : wr.rowIs (B + 4) 44 X.n (upto i X.arr)
  t : wr.rowIs (B + 5) 54 (X.n * 4) (tkU X i)
theorem Pr.kept {X : Inp} {w wr wx : World} {B i : Nat} (h : Pr X w wr B i) (f : Fr [] wr wx) : Pr X w wx B i :=
  ⟨h.fr.trans f, h.b, Nat.le_trans h.sz f.size, f.row h.J (by simp), f.row h.j (by simp), f.row h.k (by simp), f.row h.d (by simp), f.row h.a (by simp), f.row h.t (by simp)⟩
theorem fr_up {w wr : World} (h : Fr [] w wr) {b i : Nat} (hb : w.heap.size ≤ b) (v : Value) : Fr [] w (wr.setCell ⟨b, i, none⟩ v) := fr_upd h hb v
/-- The four rows are written. -/
structure Pr4 (X : Inp) (w wr : World) (B i : Nat) : Prop where
  fr : Fr [] w wr
  b : w.heap.size = B
  sz : B + 6 ≤ wr.heap.size
  J : wr.rowIs B 9 X.nJ (fun j => .string (jobB j))
  j : wr.rowIs (B + 1) 3 X.n (upto (i + 1) X.job)
  k : wr.rowIs (B + 2) 3 X.n (upto (i + 1) X.key)
  d : wr.rowIs (B + 3) 44 X.n (upto (i + 1) X.dur)
  a : wr.rowIs (B + 4) 44 X.n (upto (i + 1) X.arr)
  t : wr.rowIs (B + 5) 54 (X.n * 4) (tkU X i)
theorem Pr.four {X : Inp} {w wr : World} {B i : Nat} (h : Pr X w wr B i) {y1 y2 y3 y4 : Int} (e1 : y1 = (X.job i : Int)) (e2 : y2 = (X.key i : Int)) (e3 : y3 = (X.dur i : Int)) (e4 : y4 = (X.arr i : Int)) :
    Pr4 X w ((((wr.setCell ⟨B + 1, i, none⟩ (.int .i64 y1)).setCell ⟨B + 2, i, none⟩ (.int .i64 y2)).setCell ⟨B + 3, i, none⟩ (.int .i64 y3)).setCell ⟨B + 4, i, none⟩ (.int .i64 y4)) B i := by
  have hb := h.b
  refine ⟨fr_upd (fr_upd (fr_upd (fr_upd h.fr (by omega) _) (by omega) _) (by omega) _) (by omega) _, h.b, by simp [World.setCell]; exact h.sz, (((so h.J (by omega) _).so (by omega) _).so (by omega) _).so (by omega) _, (((upto_set h.j e1).so (by omega) _).so (by omega) _).so (by omega) _, (((upto_set (so h.k (by omega) _) e2).so (by omega) _).so (by omega) _), (upto_set ((so h.d (by omega) _).so (by omega) _) e3).so (by omega) _, upto_set (((so h.a (by omega) _).so (by omega) _).so (by omega) _) e4, (((so h.t (by omega) _).so (by omega) _).so (by omega) _).so (by omega) _⟩
theorem Pr4.last {X : Inp} {w wr : World} {B i : Nat} (h : Pr4 X w wr B i) (hi : i < X.n) :
    Pr X w ((((wr.setCell ⟨B + 5, i * 4, none⟩ (.int .i64 (X.job i : Int))).setCell ⟨B + 5, i * 4 + 1, none⟩ (.int .i64 (X.dur i : Int))).setCell ⟨B + 5, i * 4 + 2, none⟩ (.int .i64 (X.arr i : Int))).setCell ⟨B + 5, i * 4 + 3, none⟩ (.string (keyB (X.key i)))) B (i + 1) := by
  have hb := h.b
  have so4 : ∀ {b t n : Nat} {g : Nat → Value}, b ≠ B + 5 → wr.rowIs b t n g → World.rowIs ((((wr.setCell ⟨B + 5, i * 4, none⟩ (.int .i64 (X.job i : Int))).setCell ⟨B + 5, i * 4 + 1, none⟩ (.int .i64 (X.dur i : Int))).setCell ⟨B + 5, i * 4 + 2, none⟩ (.int .i64 (X.arr i : Int))).setCell ⟨B + 5, i * 4 + 3, none⟩ (.string (keyB (X.key i)))) b t n g := fun hne hr => (((so hr hne _).so hne _).so hne _).so hne _
  refine ⟨fr_upd (fr_upd (fr_upd (fr_upd (h.fr) (by omega) _) (by omega) _) (by omega) _) (by omega) _, h.b, by simp [World.setCell]; exact h.sz, so4 (by omega) h.J, so4 (by omega) h.j, so4 (by omega) h.k, so4 (by omega) h.d, so4 (by omega) h.a, ?_⟩
  refine (((h.t.set (i * 4) _).set (i * 4 + 1) _).set (i * 4 + 2) _).set (i * 4 + 3) _ |>.congr fun c hc => ?_
  unfold tkU
  by_cases e3 : c = i * 4 + 3
  · rw [if_pos e3, if_pos (by omega)]; simp [tkF, show c % 4 = 3 by omega, show c / 4 = i by omega]
  rw [if_neg e3]
  by_cases e2 : c = i * 4 + 2
  · rw [if_pos e2, if_pos (by omega)]; simp [tkF, show c % 4 = 2 by omega, show c / 4 = i by omega]
  rw [if_neg e2]
  by_cases e1 : c = i * 4 + 1
  · rw [if_pos e1, if_pos (by omega)]; simp [tkF, show c % 4 = 1 by omega, show c / 4 = i by omega]
  rw [if_neg e1]
  by_cases e0 : c = i * 4
  · rw [if_pos e0, if_pos (by omega)]; simp [tkF, show c % 4 = 0 by omega, show c / 4 = i by omega]
  rw [if_neg e0]
  by_cases e : c < i * 4
  · rw [if_pos e, if_pos (by omega)]
  · rw [if_neg e, if_neg (by omega)]
theorem Pr.full {X : Inp} {w wr : World} {B : Nat} (h : Pr X w wr B X.n) : Cst X (B + 1) (B + 2) (B + 3) (B + 4) wr ∧ wr.rowIs (B + 5) 54 (X.n * 4) (tkF X.job X.key X.dur X.arr) :=
  ⟨⟨upto_full h.j, upto_full h.k, upto_full h.d, upto_full h.a⟩, h.t.congr fun c hc => by unfold tkU; rw [if_pos hc]⟩
theorem relInit {X : Inp} {ρ : Nat → Nat} : Rel (parA X ρ) (parB X) ρ (fun k => X.ks[k]!) MS.init MS.init := ⟨rfl, fun _ _ => rfl, fun _ _ => rfl, fun _ _ => rfl, fun _ _ => rfl, fun _ _ => rfl, fun _ _ => rfl, fun _ _ => rfl, fun _ => rfl⟩
/-- The runs as they must be. -/
def runF (b : MS) (c : Nat) : Value := if c % 4 = 0 then .int .i64 (b.st (c / 4) : Int) else if c % 4 = 1 then .int .i64 (b.en (c / 4) : Int) else if c % 4 = 2 then .int .i64 (b.wk (c / 4) : Int) else .bool (b.cold (c / 4))
theorem FlP.same {X : Inp} (hX : InpOk X) {bn br : Nat} {w w' : World} {bru : Nat} {z : MS} {ρ : Nat → Nat} (h : FlP X bn br w w' bru z ρ) {b : MS} (hb : Run (parB X) MS.init b) : w'.rowIs bru 79 (X.n * 4) (runF b) := by
  obtain ⟨R, M⟩ := Rel.run (iso hX h.ord) (pb_A hX h.ord) h.run (MI.init _) relInit hb
  obtain ⟨cr, hr, hc⟩ := h.ru.row
  refine World.rowIs.congr hr fun c hcl => ?_
  have hcl' : c < X.n * 4 := hcl
  have hq : c / 4 < X.n := by omega
  obtain ⟨t, ht, et⟩ := List.mem_map.1 (h.ord.perm.mem_iff.2 (List.mem_range.2 hq))
  have ht' : t < X.n := List.mem_range.1 ht
  obtain ⟨c0, c1, c2, c3⟩ := hc t ht' (h.mi.es t (h.all t ht'))
  have r1 := R.st t ht'
  have r2 := R.en t ht'
  have r3 := R.wk t ht'
  have r4 := R.cold t ht'
  rw [et] at c0 c1 c2 c3 r1 r2 r3 r4
  unfold runF
  rcases (show c % 4 = 0 ∨ c % 4 = 1 ∨ c % 4 = 2 ∨ c % 4 = 3 by omega) with e | e | e | e
  · rw [if_pos e, r1, ← c0]; congr 1; omega
  · rw [if_neg (by omega), if_pos e, r2, ← c1]; congr 1; omega
  · rw [if_neg (by omega), if_neg (by omega), if_pos e, r3, ← c2]; congr 1; omega
  · rw [if_neg (by omega), if_neg (by omega), if_neg (by omega), r4, ← c3]; congr 1; omega
/-- What stands behind replayFleet. -/
structure Md (X : Inp) (w wx : World) (B L bru : Nat) (vw vi : Value) (R : RuSt) (m : Nat) : Prop where
  fr : Fr [] w wx
  sz : w.heap.size = B
  c : Cst X (B + 1) (B + 2) (B + 3) (B + 4) wx
  J : wx.rowIs B 9 X.nJ (fun j => .string (jobB j))
  t : wx.rowIs (B + 5) 54 (X.n * 4) (tkF X.job X.key X.dur X.arr)
  l : wx.rowIs L 57 2 (fun c => if c = 0 then .slice (some ⟨B, 0, none⟩) X.nJ X.nJ else .slice (some ⟨B + 5, 0, none⟩) X.n X.n)
  x : wx.rowIs (L + 2) 58 1 (fun _ => pn (L + 1) 0)
  run : ∀ b, Run (parB X) MS.init b → wx.rowIs bru 79 (X.n * 4) (runF b)
  r : wx.rowIs (L + 1) 60 8 (ruF vw vi R)
  nc : wx.cell? ⟨L + 3, 0, none⟩ = some (.int .i64 (m : Int))
  st : X.sticky = true → m = 1 ∧ R.adds = X.nJ ∧ R.enq = X.n ∧ R.starts = X.n ∧ R.dones = X.n
  pi : X.sticky = false → m = 0 ∧ R.adds = 0 ∧ R.enq = 0 ∧ R.starts = 0 ∧ R.dones = 0
theorem Md.kept {X : Inp} {w wx wy : World} {B L bru : Nat} {vw vi : Value} {R : RuSt} {m : Nat} (h : Md X w wx B L bru vw vi R m) (f : Fr [] wx wy) : Md X w wy B L bru vw vi R m :=
  ⟨h.fr.trans f, h.sz, ⟨f.row h.c.j (by simp), f.row h.c.k (by simp), f.row h.c.d (by simp), f.row h.c.a (by simp)⟩, f.row h.J (by simp), f.row h.t (by simp), f.row h.l (by simp), f.row h.x (by simp), fun b hb => f.row (h.run b hb) (by simp), f.row h.r (by simp), f.cell h.nc (by simp), h.st, h.pi⟩
theorem FlP.md {X : Inp} (hX : InpOk X) {w C wx : World} {B L bru : Nat} {z : MS} {ρ : Nat → Nat} (h : FlP X (L + 3) (L + 1) C wx bru z ρ) (P : Pr X w C B X.n) (hl : C.rowIs L 57 2 (fun c => if c = 0 then .slice (some ⟨B, 0, none⟩) X.nJ X.nJ else .slice (some ⟨B + 5, 0, none⟩) X.n X.n)) (hr : C.rowIs (L + 1) 60 8 (ruF (.slice none 0 0) (.slice none 0 0) (ruZ 0 0))) (hx : C.rowIs (L + 2) 58 1 (fun _ => pn (L + 1) 0)) (hn : C.rowIs (L + 3) 3 1 (fun _ => .int .i64 0)) (hLB : B + 6 ≤ L) :
    ∃ vw vi R m, Md X w wx B L bru vw vi R m := by
  have f : Fr [L + 1, L + 3] C wx := ⟨h.os, h.tape, h.output, h.size, fun k hk hs => h.block k hk (fun e => hs (by simp [e])) (fun e => hs (by simp [e]))⟩
  have hb := P.b
  have fr : Fr [] w wx := ⟨h.os.trans P.fr.os, h.tape.trans P.fr.tape, h.output.trans P.fr.output, Nat.le_trans P.fr.size h.size, fun k hk hs => by
    have := P.fr.size
    rw [h.block k (by omega) (by omega) (by omega), P.fr.block k hk hs]⟩
  have rw_ : ∀ {b t n : Nat} {g : Nat → Value}, C.rowIs b t n g → b ≠ L + 1 → b ≠ L + 3 → wx.rowIs b t n g := fun hr h1 h2 => f.row hr (by simp; exact ⟨h1, h2⟩)
  have c := P.full
  cases hs : X.sticky with
  | true =>
    obtain ⟨h1, vw, vi, R, h2, h3, h4, h5, h6⟩ := h.st hs
    exact ⟨vw, vi, R, 1, fr, hb, ⟨rw_ c.1.j (by omega) (by omega), rw_ c.1.k (by omega) (by omega), rw_ c.1.d (by omega) (by omega), rw_ c.1.a (by omega) (by omega)⟩, rw_ P.J (by omega) (by omega), rw_ c.2 (by omega) (by omega), rw_ hl (by omega) (by omega), rw_ hx (by omega) (by omega), fun b hb => h.same hX hb, h2, h1, fun _ => ⟨rfl, h3, h4, h5, h6⟩, fun e => by rw [hs] at e; cases e⟩
  | false =>
    obtain ⟨h1, h2⟩ := h.pi hs
    have f2 : Fr [] C wx := ⟨h.os, h.tape, h.output, h.size, fun k hk _ => by
      by_cases e1 : k = L + 1
      · rw [e1]; exact h2
      · by_cases e2 : k = L + 3
        · rw [e2]; exact h1
        · exact h.block k hk e1 e2⟩
    exact ⟨_, _, _, 0, fr, hb, ⟨rw_ c.1.j (by omega) (by omega), rw_ c.1.k (by omega) (by omega), rw_ c.1.d (by omega) (by omega), rw_ c.1.a (by omega) (by omega)⟩, rw_ P.J (by omega) (by omega), rw_ c.2 (by omega) (by omega), rw_ hl (by omega) (by omega), rw_ hx (by omega) (by omega), fun b hb => h.same hX hb, f2.row hr (by simp), f2.cell (hn.cell (i := 0) (by omega)) (by simp), (fun e => by rw [hs] at e; cases e), fun _ => ⟨rfl, rfl, rfl, rfl, rfl⟩⟩
/-- The model's rows as they are made, up to the free slots. -/
structure Rw (X : Inp) (z : Nat) (wz wr : World) (f : Nat → Value) : Prop where
  fr : Fr [] wz wr
  zs : wz.heap.size = z
  gr : wr.heap.size = z + 9
  ro : wr.rowIs z 3 5 (fun k => .int .i64 (ownK X.nW k : Int))
  r1 : wr.rowIs (z + 1) 4 X.n (fun _ => .bool false)
  r2 : wr.rowIs (z + 2) 4 X.n (fun _ => .bool false)
  r3 : wr.rowIs (z + 3) 4 X.n (fun _ => .bool false)
  r4 : wr.rowIs (z + 4) 4 X.n (fun _ => .bool false)
  r5 : wr.rowIs (z + 5) 44 X.n (fun _ => .int .i64 0)
  r6 : wr.rowIs (z + 6) 44 X.n (fun _ => .int .i64 0)
  r7 : wr.rowIs (z + 7) 3 X.n (fun _ => .int .i64 0)
  r8 : wr.rowIs (z + 8) 3 X.nW f
theorem Rw.set {X : Inp} {z : Nat} {wz wr : World} {f : Nat → Value} (h : Rw X z wz wr f) (i : Nat) (v : Value) : Rw X z wz (wr.setCell ⟨z + 8, i, none⟩ v) (fun k => if k = i then v else f k) := by
  have hz := h.zs
  exact ⟨fr_upd h.fr (by omega) _, h.zs, by simp [World.setCell]; exact h.gr, so h.ro (by omega) _, so h.r1 (by omega) _, so h.r2 (by omega) _, so h.r3 (by omega) _, so h.r4 (by omega) _, so h.r5 (by omega) _, so h.r6 (by omega) _, so h.r7 (by omega) _, h.r8.set i v⟩
theorem Rw.congr {X : Inp} {z : Nat} {wz wr : World} {f g : Nat → Value} (h : Rw X z wz wr f) (e : ∀ k, k < X.nW → f k = g k) : Rw X z wz wr g := ⟨h.fr, h.zs, h.gr, h.ro, h.r1, h.r2, h.r3, h.r4, h.r5, h.r6, h.r7, h.r8.congr e⟩
theorem Rw.mr {X : Inp} {z : Nat} {wz wr wx : World} (h : Rw X z wz wr (fun _ => .int .i64 (X.nS : Int))) (f : Fr [] wr wx) (gr : wx.heap.size = z + 12) (r9 : wx.rowIs (z + 9) 48 X.nW (fun _ => .slice none 0 0)) (r10 : wx.rowIs (z + 10) 3 X.nJ (fun _ => .int .i64 0)) (r11 : wx.rowIs (z + 11) 3 X.nJ (fun _ => .int .i64 0)) : MR X z wz wx MS.init := by
  refine ⟨h.fr.trans f, h.zs, by omega, f.row h.ro (by simp), f.row h.r1 (by simp), f.row h.r2 (by simp), f.row h.r3 (by simp), f.row h.r4 (by simp), f.row h.r5 (by simp), f.row h.r6 (by simp), f.row h.r7 (by simp), ?_, ⟨_, r9, fun v hv => ?_⟩, ?_, ?_, MI.init _⟩
  · refine (f.row h.r8 (by simp)).congr fun v hv => ?_
    unfold Ybulkdpsg.fr
    rw [cnt_none (p := runs MS.init v) (fun i _ => rfl)]; rfl
  · exact ⟨by simp [iN, iL, MS.init], Or.inl ⟨rfl, by simp [iN, iL, MS.init]⟩⟩
  · refine r10.congr fun j hj => ?_
    unfold infl
    rw [cnt_none (p := flies (parB X) MS.init j) (fun i _ => rfl)]; rfl
  · refine r11.congr fun j hj => ?_
    unfold wait
    rw [cnt_none (p := waits (parB X) MS.init j) (fun i _ => rfl)]; rfl
theorem ownK_fnv {nW k : Nat} (hW : 0 < nW) : fnvTo (keyB k) (keyB k).size % (nW : Int) = (ownK nW k : Int) := by
  unfold ownK
  have := Int.emod_nonneg (fnvTo (keyB k) (keyB k).size) (show (nW : Int) ≠ 0 by omega)
  omega
end Go.Proofs.Ybulkdpsg

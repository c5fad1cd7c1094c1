/- S5830C: the law's own rows against the machine: plain. -/
import Derived.Test.YbulkdpsgY1
import Derived.Test.YbulkdpsgH2
namespace Go.Proofs.Ybulkdpsg
open Go Go.RowKit Go.Sort Go.Proofs Go.Lib
set_option linter.unusedVariables false
set_option linter.unusedSimpArgs false

def iN (l : List Nat) : List Int := List.map (fun x : Nat => (x : Int)) l
theorem _root_.Go.World.rowIs.so {w : World} {b : Nat} {t : TypeId} {n : Nat} {f : Nat → Value} (h : w.rowIs b t n f) {c i : Nat} (hb : b ≠ c) (v : Value) : (w.setCell ⟨c, i, none⟩ v).rowIs b t n f := h.setOther hb v
theorem so {w : World} {b : Nat} {t : TypeId} {n : Nat} {f : Nat → Value} (h : w.rowIs b t n f) {c i : Nat} (hb : b ≠ c) (v : Value) : (w.setCell ⟨c, i, none⟩ v).rowIs b t n f := h.setOther hb v
/-- The law's rows, from block z on. -/
structure MR (X : Inp) (z : Nat) (wz wr : World) (s : MS) : Prop where
  fr : Fr [] wz wr
  zs : wz.heap.size = z
  gr : z + 12 ≤ wr.heap.size
  ro : wr.rowIs z 3 5 (fun k => .int .i64 (ownK X.nW k : Int))
  r1 : wr.rowIs (z + 1) 4 X.n (fun i => .bool (s.arrived i))
  r2 : wr.rowIs (z + 2) 4 X.n (fun i => .bool (s.started i))
  r3 : wr.rowIs (z + 3) 4 X.n (fun i => .bool (s.ended i))
  r4 : wr.rowIs (z + 4) 4 X.n (fun i => .bool (s.cold i))
  r5 : wr.rowIs (z + 5) 44 X.n (fun i => .int .i64 (s.st i : Int))
  r6 : wr.rowIs (z + 6) 44 X.n (fun i => .int .i64 (s.en i : Int))
  r7 : wr.rowIs (z + 7) 3 X.n (fun i => .int .i64 (s.wk i : Int))
  r8 : wr.rowIs (z + 8) 3 X.nW (fun v => .int .i64 (Ybulkdpsg.fr (parB X) s v : Int))
  r9 : ∃ vm, wr.rowIs (z + 9) 48 X.nW vm ∧ ∀ v, v < X.nW → wr.ownsRow (z + 12) 3 1 (vm v) (iN (s.mem v)).length (iL (iN (s.mem v)))
  r10 : wr.rowIs (z + 10) 3 X.nJ (fun j => .int .i64 (infl (parB X) s j : Int))
  r11 : wr.rowIs (z + 11) 3 X.nJ (fun j => .int .i64 (wait (parB X) s j : Int))
  mi : MI (parB X) s
theorem MR.drew {X : Inp} {z : Nat} {wz wr : World} {s : MS} (h : MR X z wz wr s) (q : Nat) : MR X z wz (wr.drewN q) s :=
  ⟨⟨h.fr.os, h.fr.tape, h.fr.output, h.fr.size, h.fr.block⟩, h.zs, h.gr, h.ro, h.r1, h.r2, h.r3, h.r4, h.r5, h.r6, h.r7, h.r8, h.r9, h.r10, h.r11, h.mi⟩
theorem fr_upd {wz wr : World} (h : Fr [] wz wr) {b i : Nat} (hb : wz.heap.size ≤ b) (v : Value) : Fr [] wz (wr.setCell ⟨b, i, none⟩ v) := by
  have f : Fr [b] wr (wr.setCell ⟨b, i, none⟩ v) := Fr.setCell _ _ _ (by simp)
  exact ⟨f.os.trans h.os, f.tape.trans h.tape, f.output.trans h.output, Nat.le_trans h.size f.size, fun k hk _ => by
    have := h.size
    rw [f.block k (by omega) (by simp; omega), h.block k hk (by simp)]⟩
theorem own_upd {wr : World} {base e n : Nat} {v : Value} {xs : List Value} (h : wr.ownsRow base e 1 v n xs) {b i : Nat} (hb : b < base) (x : Value) : (wr.setCell ⟨b, i, none⟩ x).ownsRow base e 1 v n xs :=
  own_frW h (Fr.setCell (S := [b]) _ _ _ (by simp)) (fun k hk hm => by simp at hm; have := (h.lt k hk).1; omega)
section
variable {X : Inp} {z : Nat} {wz wr : World} {s : MS}
theorem MR.endStep (h : MR X z wz wr s) {i : Nat} (hi : i < X.n) (hj : X.job i < X.nJ) (hs : s.started i = true) (he : s.ended i = false) :
    MR X z wz (((wr.setCell ⟨z + 3, i, none⟩ (.bool true)).setCell ⟨z + 8, s.wk i, none⟩ (.int .i64 ((Ybulkdpsg.fr (parB X) s (s.wk i) : Int) + 1))).setCell ⟨z + 10, X.job i, none⟩ (.int .i64 ((infl (parB X) s (X.job i) : Int) - 1))) (endOne s i) := by
  have hz := h.zs
  obtain ⟨vm, hm1, hm2⟩ := h.r9
  have fc := h.mi.fc
  have gr := h.gr
  refine ⟨fr_upd (fr_upd (fr_upd h.fr (by omega) _) (by omega) _) (by omega) _, hz, by simp [World.setCell]; exact gr, (so (so h.ro (by omega) _) (by omega) _).so (by omega) _, (so (so h.r1 (by omega) _) (by omega) _).so (by omega) _, (so (so h.r2 (by omega) _) (by omega) _).so (by omega) _, ?_, (so (so h.r4 (by omega) _) (by omega) _).so (by omega) _, (so (so h.r5 (by omega) _) (by omega) _).so (by omega) _, (so (so h.r6 (by omega) _) (by omega) _).so (by omega) _, (so (so h.r7 (by omega) _) (by omega) _).so (by omega) _, ?_, ⟨vm, (so (so hm1 (by omega) _) (by omega) _).so (by omega) _, fun v hv => own_upd (own_upd (own_upd (hm2 v hv) (by omega) _) (by omega) _) (by omega) _⟩, ?_, (so (so h.r11 (by omega) _) (by omega) _).so (by omega) _, h.mi.endOne hs⟩
  · refine ((((h.r3.set i _).so (by omega) _).so (by omega) _)).congr fun k hk => ?_
    show (if k = i then _ else _) = Value.bool (upd s.ended i true k)
    unfold upd
    split <;> rfl
  · refine ((((so h.r8 (by omega) _).set (s.wk i) _).so (by omega) _)).congr fun v hv => ?_
    have hr := runs_end (A := parB X) (t := i) hi hs he v
    have hfc := fc v
    show (if v = s.wk i then _ else _) = _
    unfold Ybulkdpsg.fr
    by_cases e : v = s.wk i
    · rw [if_pos e, ← e]; rw [if_pos e.symm] at hr; congr 1; omega
    · rw [if_neg e]; rw [if_neg (fun hh => e hh.symm)] at hr; congr 2; omega
  · refine (((so (so h.r10 (by omega) _) (by omega) _).set (X.job i) _)).congr fun j hj' => ?_
    have hr : infl (parB X) s j = infl (parB X) (endOne s i) j + (if X.job i = j then 1 else 0) := infl_end (A := parB X) (t := i) hi hs he j
    show (if j = X.job i then _ else _) = _
    by_cases e : j = X.job i
    · rw [if_pos e, ← e]; rw [if_pos e.symm] at hr; congr 1; omega
    · rw [if_neg e]; rw [if_neg (fun hh => e hh.symm)] at hr; congr 2
theorem MR.arrStep (h : MR X z wz wr s) {i : Nat} (hi : i < X.n) (hj : X.job i < X.nJ) (ha : s.arrived i = false) (hs : s.started i = false) :
    MR X z wz ((wr.setCell ⟨z + 1, i, none⟩ (.bool true)).setCell ⟨z + 11, X.job i, none⟩ (.int .i64 ((wait (parB X) s (X.job i) : Int) + 1))) (arrOne s i) := by
  have hz := h.zs
  obtain ⟨vm, hm1, hm2⟩ := h.r9
  have gr := h.gr
  refine ⟨fr_upd (fr_upd h.fr (by omega) _) (by omega) _, hz, by simp [World.setCell]; exact gr, (so h.ro (by omega) _).so (by omega) _, ?_, (so h.r2 (by omega) _).so (by omega) _, (so h.r3 (by omega) _).so (by omega) _, (so h.r4 (by omega) _).so (by omega) _, (so h.r5 (by omega) _).so (by omega) _, (so h.r6 (by omega) _).so (by omega) _, (so h.r7 (by omega) _).so (by omega) _, (so h.r8 (by omega) _).so (by omega) _, ⟨vm, (so hm1 (by omega) _).so (by omega) _, fun v hv => own_upd (own_upd (hm2 v hv) (by omega) _) (by omega) _⟩, (so h.r10 (by omega) _).so (by omega) _, ?_, h.mi.arrOne hi⟩
  · refine ((h.r1.set i _).so (by omega) _).congr fun k hk => ?_
    show (if k = i then _ else _) = Value.bool (upd s.arrived i true k)
    unfold upd
    split <;> rfl
  · refine ((so h.r11 (by omega) _).set (X.job i) _).congr fun j hj' => ?_
    have hr : wait (parB X) (arrOne s i) j = wait (parB X) s j + (if X.job i = j then 1 else 0) := wait_arr (A := parB X) (t := i) hi ha hs j
    show (if j = X.job i then _ else _) = _
    by_cases e : j = X.job i
    · rw [if_pos e, ← e]; rw [if_pos e.symm] at hr; congr 1; omega
    · rw [if_neg e]; rw [if_neg (fun hh => e hh.symm)] at hr; congr 2; omega
end
/-- Up to i those that are due have ended. -/
def endTo (s : MS) (i : Nat) : MS := { s with ended := fun k => s.ended k || (decide (k < i) && (s.started k && s.en k == s.now)) }
theorem endTo_zero (s : MS) : endTo s 0 = s := by
  unfold endTo
  have : (fun k => s.ended k || (decide (k < 0) && (s.started k && s.en k == s.now))) = s.ended := by funext k; simp
  rw [this]
theorem endTo_all {P : Par} {s : MS} (M : MI P s) : endTo s P.n = endAll s := by
  unfold endTo endAll
  have : (fun k => s.ended k || (decide (k < P.n) && (s.started k && s.en k == s.now))) = (fun k => s.ended k || (s.started k && s.en k == s.now)) := by
    funext k
    cases hs : s.started k with
    | false => simp
    | true => simp [M.an k (M.sa k hs)]
  rw [this]
theorem endTo_yes {s : MS} {i : Nat} (h1 : s.started i = true) (h2 : s.en i = s.now) : endTo s (i + 1) = endOne (endTo s i) i := by
  unfold endTo endOne
  congr 1
  funext k
  unfold upd
  by_cases e : k = i
  · subst e; simp [h1, h2]
  · rw [if_neg e]
    have : decide (k < i + 1) = decide (k < i) := decide_eq_decide.2 (by omega)
    rw [this]
theorem endTo_no {s : MS} {i : Nat} (h : ¬ (s.started i = true ∧ s.ended i = false ∧ s.en i = s.now)) : endTo s (i + 1) = endTo s i := by
  unfold endTo
  congr 1
  funext k
  by_cases e : k = i
  · subst e
    cases he : s.ended k with
    | true => simp
    | false =>
      cases hs : s.started k with
      | false => simp
      | true =>
        have : ¬ s.en k = s.now := fun hh => h ⟨hs, he, hh⟩
        simp [this]
  · have : decide (k < i + 1) = decide (k < i) := decide_eq_decide.2 (by omega)
    rw [this]
theorem endTo_ended {s : MS} {i : Nat} : (endTo s i).ended i = s.ended i := by simp [endTo]
def arrTo (P : Par) (s : MS) (i : Nat) : MS := { s with arrived := fun k => s.arrived k || (decide (k < i) && decide (P.arr k ≤ s.now)) }
theorem arrTo_zero (P : Par) (s : MS) : arrTo P s 0 = s := by
  unfold arrTo
  have : (fun k => s.arrived k || (decide (k < 0) && decide (P.arr k ≤ s.now))) = s.arrived := by funext k; simp
  rw [this]
theorem arrTo_all (P : Par) (s : MS) : arrTo P s P.n = arrAll P s := rfl
theorem arrTo_yes {P : Par} {s : MS} {i : Nat} (h : P.arr i ≤ s.now) : arrTo P s (i + 1) = arrOne (arrTo P s i) i := by
  unfold arrTo arrOne
  congr 1
  funext k
  unfold upd
  by_cases e : k = i
  · subst e; simp [h]
  · rw [if_neg e]
    have : decide (k < i + 1) = decide (k < i) := decide_eq_decide.2 (by omega)
    rw [this]
theorem arrTo_no {P : Par} {s : MS} {i : Nat} (h : ¬ (s.arrived i = false ∧ P.arr i ≤ s.now)) : arrTo P s (i + 1) = arrTo P s i := by
  unfold arrTo
  congr 1
  funext k
  by_cases e : k = i
  · subst e
    cases ha : s.arrived k with
    | true => simp
    | false =>
      have : ¬ P.arr k ≤ s.now := fun hh => h ⟨ha, hh⟩
      simp [this]
  · have : decide (k < i + 1) = decide (k < i) := decide_eq_decide.2 (by omega)
    rw [this]
theorem arrTo_arrived {P : Par} {s : MS} {i : Nat} : (arrTo P s i).arrived i = s.arrived i := by simp [arrTo]
end Go.Proofs.Ybulkdpsg

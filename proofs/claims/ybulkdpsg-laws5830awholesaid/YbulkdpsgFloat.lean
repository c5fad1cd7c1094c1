/- FLOATS UP TO THE BITS OF A NaN: 'Rel a s': the bits a of the run and the bits s of the plain function are the same, or both are a NaN's. -/
import Derived.Laws.FloatArith
import Derived.Deep.Draws
import Derived.Laws.NewFold
namespace Go.Proofs.Ybulkdpsg
open Go

abbrev D : Ieee.Format := Ieee.double
theorem sw : D.signWeight = 9223372036854775808 := rfl
theorem bn : D.binade = 4503599627370496 := rfl
theorem ir : D.infRung = 9218868437227405312 := rfl

/-- A word's lower 63 bits. -/
def rungOf (x : Nat) : Nat := x % 9223372036854775808
def NaN (x : Nat) : Prop := x < 18446744073709551616 ∧ 9218868437227405312 < rungOf x
theorem read_nan (x : Nat) : (D.read x).isNaN = true ↔ 9218868437227405312 < rungOf x := by
  unfold rungOf Ieee.Format.read
  rw [sw, bn, ir]
  dsimp only
  split
  · simp [Ieee.Datum.isNaN]; omega
  · split
    · simp [Ieee.Datum.isNaN]; omega
    · split
      · simp [Ieee.Datum.isNaN]; omega
      · simp [Ieee.Datum.isNaN]; omega
theorem NaN.read {x : Nat} (h : NaN x) : ∃ s f, D.read x = .nan s f := by
  have := (read_nan x).2 h.2
  cases e : D.read x with
  | nan s f => exact ⟨s, f, rfl⟩
  | number => rw [e] at this; cases this
  | infinity => rw [e] at this; cases this

def Rel (a s : Nat) : Prop := (a = s ∧ a < 18446744073709551616) ∨ (NaN a ∧ NaN s)
theorem Rel.refl {a : Nat} (h : a < 18446744073709551616) : Rel a a := .inl ⟨rfl, h⟩
theorem Rel.nan {a s : Nat} (h : NaN a) (k : NaN s) : Rel a s := .inr ⟨h, k⟩


theorem none_left {op : BinOp} (x y : Nat) (h : NaN x) : floatBits op .f64 x y = none := by
  obtain ⟨s, f, e⟩ := h.read
  have e' : Ieee.double.read x = .nan s f := e
  cases op <;> simp [floatBits, FloatKind.format, Ieee.Format.add, Ieee.Format.sub, Ieee.Format.mul, Ieee.Format.div, e', Ieee.Datum.sum, Ieee.Datum.product, Ieee.Datum.quotient]
theorem none_right {op : BinOp} (x y : Nat) (h : NaN y) : floatBits op .f64 x y = none := by
  obtain ⟨s, f, e⟩ := h.read
  have e' : Ieee.double.read y = .nan s f := e
  cases op <;> simp [floatBits, FloatKind.format, Ieee.Format.add, Ieee.Format.sub, Ieee.Format.mul, Ieee.Format.div, e', Ieee.Datum.opposite]
  all_goals (cases Ieee.double.read x <;> simp [Ieee.Datum.sum, Ieee.Datum.product, Ieee.Datum.quotient])

/-- The NaN of the plain function. -/
def QN : Nat := 9221120237041090561
theorem QN_nan : NaN QN := by unfold NaN rungOf QN; omega
def fop (op : BinOp) (s t : Nat) : Nat := (floatBits op .f64 s t).getD QN
def fadd := fop .add
def fsub := fop .sub
def fmul := fop .mul
def fdiv := fop .quo

theorem cut_nan (x y t : Nat) : NaN ((Question.nanBits .f64 x y).cut t) := by
  have e : (Question.nanBits .f64 x y).cut t = (t % 2) * 9223372036854775808 + 9218868437227405312 + 1 + (t / 2) % 4503599627370495 := rfl
  rw [e]
  have hc : (t / 2) % 4503599627370495 < 4503599627370495 := Nat.mod_lt _ (by omega)
  generalize (t / 2) % 4503599627370495 = c at hc
  unfold NaN rungOf
  rcases Nat.mod_two_eq_zero_or_one t with h | h <;> rw [h] <;> omega

theorem some_lt {op : BinOp} {x y r : Nat} (h : floatBits op .f64 x y = some r) : r < 18446744073709551616 := by
  have := floatBits_wf h
  simp [Lit.wf] at this
  exact this

/-- WHAT AN OPERATION GIVES. -/
theorem run_float {P : Program} {op : BinOp} (ho : op = .add ∨ op = .sub ∨ op = .mul ∨ op = .quo) (t : TypeId) {x y s u : Nat} (hx : Rel x s) (hy : Rel y u) (w : World) :
    ∃ r n, (binOp op t (.float .f64 x) (.float .f64 y)).run P w = .ok (.float .f64 r) (w.drewN n) ∧ Rel r (fop op s u) := by
  cases e : floatBits op .f64 x y with
  | some r =>
    refine ⟨r, 0, run_float_arith w op t .f64 x y r e, ?_⟩
    rcases hx with ⟨rfl, _⟩ | ⟨h, _⟩
    · rcases hy with ⟨rfl, _⟩ | ⟨h, _⟩
      · unfold fop; rw [e]; exact Rel.refl (some_lt e)
      · rw [none_right x y h] at e; cases e
    · rw [none_left x y h] at e; cases e
  | none =>
    refine ⟨(Question.nanBits .f64 x y).cut (w.tape w.drawn (.nanBits .f64 x y)), 1, ?_, ?_⟩
    · rcases ho with rfl | rfl | rfl | rfl
      all_goals
        simp only [floatBits] at e
        simp [binOp, Op.floatArith, e, Question.forced, World.drew_is_drewN]
    · refine Rel.nan (cut_nan _ _ _) ?_
      have : fop op s u = QN := by
        unfold fop
        rcases hx with ⟨rfl, _⟩ | ⟨_, h⟩
        · rcases hy with ⟨rfl, _⟩ | ⟨_, h⟩
          · rw [e]; rfl
          · rw [none_right _ _ h]; rfl
        · rw [none_left _ _ h]; rfl
      rw [this]; exact QN_nan

/-- '-x'. -/
def fneg (x : Nat) : Nat := if x < 9223372036854775808 then x + 9223372036854775808 else x - 9223372036854775808
theorem negFloat_eq (x : Nat) (h : x < 18446744073709551616) : Op.negFloat .f64 x = fneg x := by
  unfold Op.negFloat fneg
  show x ^^^ 9223372036854775808 = _
  split
  · rename_i hx
    have : x ^^^ 2 ^ 63 = 2 ^ 63 + x := by
      rw [Nat.xor_comm]
      have e := Nat.two_pow_add_eq_or_of_lt (i := 63) (b := x) (show x < 2 ^ 63 from hx) 1
      rw [Nat.mul_one] at e
      rw [e]
      apply Nat.eq_of_testBit_eq
      intro i
      rw [Nat.testBit_xor, Nat.testBit_or]
      by_cases hi : i = 63
      · subst hi
        rw [Nat.testBit_lt_two_pow (show x < 2 ^ 63 from hx)]; simp
      · rw [Nat.testBit_two_pow_of_ne (Ne.symm hi)]; simp
    have e63 : (9223372036854775808 : Nat) = 2 ^ 63 := rfl
    rw [e63, this]; omega
  · rename_i hx
    obtain ⟨y, rfl⟩ : ∃ y, x = 2 ^ 63 + y := ⟨x - 9223372036854775808, by omega⟩
    have hy : y < 2 ^ 63 := by omega
    have e63 : (9223372036854775808 : Nat) = 2 ^ 63 := rfl
    rw [e63]
    have e := Nat.two_pow_add_eq_or_of_lt (i := 63) (b := y) hy 1
    rw [Nat.mul_one] at e
    rw [e]
    have : (2 ^ 63 ||| y) ^^^ 2 ^ 63 = y := by
      apply Nat.eq_of_testBit_eq
      intro i
      rw [Nat.testBit_xor, Nat.testBit_or]
      by_cases hi : i = 63
      · subst hi
        rw [Nat.testBit_lt_two_pow hy]; simp
      · rw [Nat.testBit_two_pow_of_ne (Ne.symm hi)]; simp
    rw [this, ← e]; omega
theorem fneg_rung (x : Nat) (h : x < 18446744073709551616) : rungOf (fneg x) = rungOf x ∧ fneg x < 18446744073709551616 := by
  unfold rungOf fneg; split <;> omega
theorem Rel.neg {a s : Nat} (h : Rel a s) : Rel (fneg a) (fneg s) := by
  rcases h with ⟨rfl, h⟩ | ⟨h, k⟩
  · exact Rel.refl (fneg_rung a h).2
  · obtain ⟨e1, e2⟩ := fneg_rung a h.1
    obtain ⟨e3, e4⟩ := fneg_rung s k.1
    exact .inr ⟨⟨e2, by rw [e1]; exact h.2⟩, ⟨e4, by rw [e3]; exact k.2⟩⟩
theorem Rel.lt {a s : Nat} (h : Rel a s) : a < 18446744073709551616 := by
  rcases h with ⟨_, h⟩ | ⟨h, _⟩
  · exact h
  · exact h.1
/-- '|x|'. -/
def fabs (x : Nat) : Nat := x % 9223372036854775808
theorem Rel.abs {a s : Nat} (h : Rel a s) : Rel (fabs a) (fabs s) := by
  rcases h with ⟨rfl, h⟩ | ⟨h, k⟩
  · exact Rel.refl (by unfold fabs; omega)
  · refine .inr ⟨⟨by unfold fabs; omega, ?_⟩, ⟨by unfold fabs; omega, ?_⟩⟩
    · have := h.2; unfold fabs rungOf at *; omega
    · have := k.2; unfold fabs rungOf at *; omega
/-- Comparisons. -/
theorem order_left {x : Nat} (y : Nat) (h : NaN x) : D.order x y = none := by
  obtain ⟨s, f, e⟩ := h.read
  simp [Ieee.Format.order, e, Ieee.Datum.order]
theorem order_right (x : Nat) {y : Nat} (h : NaN y) : D.order x y = none := by
  obtain ⟨s, f, e⟩ := h.read
  simp only [Ieee.Format.order, e]
  cases D.read x <;> rfl
theorem Rel.order {a s b t : Nat} (h : Rel a s) (k : Rel b t) : D.order a b = D.order s t := by
  rcases h with ⟨rfl, _⟩ | ⟨h, h'⟩
  · rcases k with ⟨rfl, _⟩ | ⟨k, k'⟩
    · rfl
    · rw [order_right _ k, order_right _ k']
  · rw [order_left _ h, order_left _ h']
end Go.Proofs.Ybulkdpsg

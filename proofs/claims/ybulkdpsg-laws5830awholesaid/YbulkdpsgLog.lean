/- math.Log: AN ENTRY OF THE MODEL: one answer, up to a NaN's bits; math/bits.Mul64; squaresApart. -/
import Derived.Test.YbulkdpsgWalk
import Derived.Lib.Mul64
namespace Go.Proofs.Ybulkdpsg
open Go Go.RowKit
set_option linter.unusedVariables false

theorem arith_run {P : Program} {op : BinOp} (ho : op = .add ∨ op = .sub ∨ op = .mul ∨ op = .quo) {x y s u : Nat} (hx : Rel x s) (hy : Rel y u) (w : World) :
    ∃ r n, (Extern.MathAsm.arith op x y).run P w = .ok r (w.drewN n) ∧ Rel r (fop op s u) := by
  obtain ⟨r, n, e, hr⟩ := run_float (P := P) ho 0 hx hy w
  refine ⟨r, n, ?_, hr⟩
  have : (Op.floatArith op .f64 x y).run P w = .ok (.float .f64 r) (w.drewN n) := by
    rw [← e]
    rcases ho with rfl | rfl | rfl | rfl <;> rfl
  unfold Extern.MathAsm.arith
  rw [Sem.run_bind, this]
  rfl

theorem floatOfInt_lt (n : Int) : floatOfInt .f64 n < 18446744073709551616 := by
  have := floatOfInt_wf .f64 n
  simp [Lit.wf] at this
  exact this
theorem rel_int (n : Int) : Rel (floatOfInt .f64 n) (floatOfInt .f64 n) := Rel.refl (floatOfInt_lt n)

/-- A computation that gives one of a set of values and at most draws. -/
def Giv {α : Type} (P : Program) (m : Sem α) (R : α → Prop) : Prop := ∀ w, ∃ r n, m.run P w = .ok r (w.drewN n) ∧ R r
theorem Giv.bind {α β : Type} {P : Program} {m : Sem α} {f : α → Sem β} {R : α → Prop} {R' : β → Prop} (h : Giv P m R) (k : ∀ r, R r → Giv P (f r) R') : Giv P (m >>= f) R' := fun w => by
  obtain ⟨r, n, e, hr⟩ := h w
  obtain ⟨r', n', e', hr'⟩ := k r hr (w.drewN n)
  exact ⟨r', n + n', by rw [Sem.run_bind, e, Result.andThen_ok, e', World.drewN_drewN], hr'⟩
theorem Giv.pure {α : Type} {P : Program} {R : α → Prop} {a : α} (h : R a) : Giv P (Pure.pure a : Sem α) R := fun w => ⟨a, 0, by rw [Sem.run_pure, World.drewN_zero], h⟩
theorem giv_arith {P : Program} {op : BinOp} (ho : op = .add ∨ op = .sub ∨ op = .mul ∨ op = .quo) {x y s u S : Nat} (hS : S = fop op s u) (hx : Rel x s) (hy : Rel y u) : Giv P (Extern.MathAsm.arith op x y) (fun r => Rel r S) := fun w => by
  subst hS; exact arith_run ho hx hy w

set_option maxRecDepth 20000 in
/-- The chain, at an argument that is a positive number. -/
theorem arch_num {P : Program} (x : Nat) (h0 : x ≠ 0) (hx : x < 9218868437227405312) : ∃ s, Giv P (Extern.MathLog.archLog #[.float .f64 x]) (fun v => ∃ r, v = .float .f64 r ∧ Rel r s) := by
  have c1 : (x % 2 ^ 63 == 0) = false := by
    have : x % 2 ^ 63 = x := by omega
    rw [this]; exact beq_false_of_ne h0
  have c2 : ¬ x ≥ 2 ^ 63 := by omega
  have c3 : ¬ x ≥ Extern.MathAsm.posInf := by unfold Extern.MathAsm.posInf; omega
  have hF0 : x % 2 ^ 52 + Extern.MathAsm.half < 18446744073709551616 := by unfold Extern.MathAsm.half; omega
  have hK0 : Extern.MathAsm.ofInt32 (Int.ofNat (x / 2 ^ 52) - 1022) < 18446744073709551616 := floatOfInt_lt _
  delta Extern.MathLog.archLog Extern.MathLog.archLog.match_1
  dsimp only
  rw [dif_pos (by rfl)]
  generalize hg : Array.getLit _ _ _ _ = g
  obtain rfl : Value.float .f64 x = g := hg
  delta Extern.MathLog.archLog._sparseCasesOn_1 Extern.MathLog.archLog._sparseCasesOn_2
  dsimp only
  rw [c1, if_neg Bool.false_ne_true, if_neg c2, if_neg c3]
  generalize x % 2 ^ 52 + Extern.MathAsm.half = F0 at hF0 ⊢
  generalize Extern.MathAsm.ofInt32 (Int.ofNat (x / 2 ^ 52) - 1022) = K0 at hK0 ⊢
  generalize hK1 : (if (!Extern.MathAsm.lt 4604544271217802189 F0) = true then Extern.MathAsm.one else 0) = K1
  have hK1' : K1 < 18446744073709551616 := by rw [← hK1]; split <;> decide
  have rK0 : Rel K0 K0 := Rel.refl hK0
  have rK1 : Rel K1 K1 := Rel.refl hK1'
  have rF0 : Rel F0 F0 := Rel.refl hF0
  obtain ⟨S_k1, h_k1⟩ : ∃ S, S = fop .sub K0 K1 := ⟨_, rfl⟩
  obtain ⟨S_g, h_g⟩ : ∃ S, S = fop .add K1 4607182418800017408 := ⟨_, rfl⟩
  obtain ⟨S_f1, h_f1⟩ : ∃ S, S = fop .mul F0 S_g := ⟨_, rfl⟩
  obtain ⟨S_f, h_f⟩ : ∃ S, S = fop .sub S_f1 4607182418800017408 := ⟨_, rfl⟩
  obtain ⟨S_d, h_d⟩ : ∃ S, S = fop .add 4611686018427387904 S_f := ⟨_, rfl⟩
  obtain ⟨S_s, h_s⟩ : ∃ S, S = fop .quo S_f S_d := ⟨_, rfl⟩
  obtain ⟨S_s2, h_s2⟩ : ∃ S, S = fop .mul S_s S_s := ⟨_, rfl⟩
  obtain ⟨S_s4, h_s4⟩ : ∃ S, S = fop .mul S_s2 S_s2 := ⟨_, rfl⟩
  obtain ⟨S_a1, h_a1⟩ : ∃ S, S = fop .mul 4594499633228436036 S_s4 := ⟨_, rfl⟩
  obtain ⟨S_a2, h_a2⟩ : ∃ S, S = fop .add S_a1 4595719342595441630 := ⟨_, rfl⟩
  obtain ⟨S_a3, h_a3⟩ : ∃ S, S = fop .mul S_a2 S_s4 := ⟨_, rfl⟩
  obtain ⟨S_a4, h_a4⟩ : ∃ S, S = fop .add S_a3 4598818590951641945 := ⟨_, rfl⟩
  obtain ⟨S_a5, h_a5⟩ : ∃ S, S = fop .mul S_a4 S_s4 := ⟨_, rfl⟩
  obtain ⟨S_a6, h_a6⟩ : ∃ S, S = fop .add S_a5 4604180019048437139 := ⟨_, rfl⟩
  obtain ⟨S_t1, h_t1⟩ : ∃ S, S = fop .mul S_s2 S_a6 := ⟨_, rfl⟩
  obtain ⟨S_b1, h_b1⟩ : ∃ S, S = fop .mul 4594685411790997151 S_s4 := ⟨_, rfl⟩
  obtain ⟨S_b2, h_b2⟩ : ∃ S, S = fop .add S_b1 4597174411056806063 := ⟨_, rfl⟩
  obtain ⟨S_b3, h_b3⟩ : ∃ S, S = fop .mul S_b2 S_s4 := ⟨_, rfl⟩
  obtain ⟨S_b4, h_b4⟩ : ∃ S, S = fop .add S_b3 4600877379321592324 := ⟨_, rfl⟩
  obtain ⟨S_t2, h_t2⟩ : ∃ S, S = fop .mul S_s4 S_b4 := ⟨_, rfl⟩
  obtain ⟨S_r, h_r⟩ : ∃ S, S = fop .add S_t1 S_t2 := ⟨_, rfl⟩
  obtain ⟨S_h1, h_h1⟩ : ∃ S, S = fop .mul 4602678819172646912 S_f := ⟨_, rfl⟩
  obtain ⟨S_hf, h_hf⟩ : ∃ S, S = fop .mul S_h1 S_f := ⟨_, rfl⟩
  obtain ⟨S_c1, h_c1⟩ : ∃ S, S = fop .add S_r S_hf := ⟨_, rfl⟩
  obtain ⟨S_c2, h_c2⟩ : ∃ S, S = fop .mul S_s S_c1 := ⟨_, rfl⟩
  obtain ⟨S_c3, h_c3⟩ : ∃ S, S = fop .mul 4461442080421002358 S_k1 := ⟨_, rfl⟩
  obtain ⟨S_inn, h_inn⟩ : ∃ S, S = fop .add S_c2 S_c3 := ⟨_, rfl⟩
  obtain ⟨S_e1, h_e1⟩ : ∃ S, S = fop .mul S_k1 4604418534311723008 := ⟨_, rfl⟩
  obtain ⟨S_e2, h_e2⟩ : ∃ S, S = fop .sub S_hf S_inn := ⟨_, rfl⟩
  obtain ⟨S_e3, h_e3⟩ : ∃ S, S = fop .sub S_e2 S_f := ⟨_, rfl⟩
  obtain ⟨S_e4, h_e4⟩ : ∃ S, S = fop .sub S_e1 S_e3 := ⟨_, rfl⟩
  refine ⟨S_e4, ?_⟩
  refine Giv.bind (giv_arith (by simp) h_k1 rK0 rK1) fun k1 r_k1 => ?_
  refine Giv.bind (giv_arith (by simp) h_g rK1 (Rel.refl (a := (4607182418800017408)) (by decide))) fun g r_g => ?_
  refine Giv.bind (giv_arith (by simp) h_f1 rF0 r_g) fun f1 r_f1 => ?_
  refine Giv.bind (giv_arith (by simp) h_f r_f1 (Rel.refl (a := (4607182418800017408)) (by decide))) fun f r_f => ?_
  refine Giv.bind (giv_arith (by simp) h_d (Rel.refl (a := (4611686018427387904)) (by decide)) r_f) fun d r_d => ?_
  refine Giv.bind (giv_arith (by simp) h_s r_f r_d) fun s r_s => ?_
  refine Giv.bind (giv_arith (by simp) h_s2 r_s r_s) fun s2 r_s2 => ?_
  refine Giv.bind (giv_arith (by simp) h_s4 r_s2 r_s2) fun s4 r_s4 => ?_
  refine Giv.bind (giv_arith (by simp) h_a1 (Rel.refl (a := 4594499633228436036) (by decide)) r_s4) fun a1 r_a1 => ?_
  refine Giv.bind (giv_arith (by simp) h_a2 r_a1 (Rel.refl (a := 4595719342595441630) (by decide))) fun a2 r_a2 => ?_
  refine Giv.bind (giv_arith (by simp) h_a3 r_a2 r_s4) fun a3 r_a3 => ?_
  refine Giv.bind (giv_arith (by simp) h_a4 r_a3 (Rel.refl (a := 4598818590951641945) (by decide))) fun a4 r_a4 => ?_
  refine Giv.bind (giv_arith (by simp) h_a5 r_a4 r_s4) fun a5 r_a5 => ?_
  refine Giv.bind (giv_arith (by simp) h_a6 r_a5 (Rel.refl (a := 4604180019048437139) (by decide))) fun a6 r_a6 => ?_
  refine Giv.bind (giv_arith (by simp) h_t1 r_s2 r_a6) fun t1 r_t1 => ?_
  refine Giv.bind (giv_arith (by simp) h_b1 (Rel.refl (a := 4594685411790997151) (by decide)) r_s4) fun b1 r_b1 => ?_
  refine Giv.bind (giv_arith (by simp) h_b2 r_b1 (Rel.refl (a := 4597174411056806063) (by decide))) fun b2 r_b2 => ?_
  refine Giv.bind (giv_arith (by simp) h_b3 r_b2 r_s4) fun b3 r_b3 => ?_
  refine Giv.bind (giv_arith (by simp) h_b4 r_b3 (Rel.refl (a := 4600877379321592324) (by decide))) fun b4 r_b4 => ?_
  refine Giv.bind (giv_arith (by simp) h_t2 r_s4 r_b4) fun t2 r_t2 => ?_
  refine Giv.bind (giv_arith (by simp) h_r r_t1 r_t2) fun r r_r => ?_
  refine Giv.bind (giv_arith (by simp) h_h1 (Rel.refl (a := 4602678819172646912) (by decide)) r_f) fun h1 r_h1 => ?_
  refine Giv.bind (giv_arith (by simp) h_hf r_h1 r_f) fun hf r_hf => ?_
  refine Giv.bind (giv_arith (by simp) h_c1 r_r r_hf) fun c1 r_c1 => ?_
  refine Giv.bind (giv_arith (by simp) h_c2 r_s r_c1) fun c2 r_c2 => ?_
  refine Giv.bind (giv_arith (by simp) h_c3 (Rel.refl (a := 4461442080421002358) (by decide)) r_k1) fun c3 r_c3 => ?_
  refine Giv.bind (giv_arith (by simp) h_inn r_c2 r_c3) fun inn r_inn => ?_
  refine Giv.bind (giv_arith (by simp) h_e1 r_k1 (Rel.refl (a := 4604418534311723008) (by decide))) fun e1 r_e1 => ?_
  refine Giv.bind (giv_arith (by simp) h_e2 r_hf r_inn) fun e2 r_e2 => ?_
  refine Giv.bind (giv_arith (by simp) h_e3 r_e2 r_f) fun e3 r_e3 => ?_
  refine Giv.bind (giv_arith (by simp) h_e4 r_e1 r_e3) fun e4 r_e4 => ?_
  exact Giv.pure ⟨_, rfl, r_e4⟩

theorem log41 (x : Nat) (w : World) : (callFunc 41 #[.float .f64 x]).run Yba.prog w = (Extern.MathLog.archLog #[.float .f64 x] >>= fun v => pure (Next.value v)).run Yba.prog w := by
  kernel_rfl

/-- One answer up to a NaN's bits, whatever is drawn. -/
def Lg (x s : Nat) : Prop := ∀ x', Rel x' x → ∀ w, Calls Yba.prog 29 #[.float .f64 x'] w fun e w' => ∃ r n, e = .returned (.float .f64 r) ∧ Rel r s ∧ w' = w.drewN n

theorem arch_any (x : Nat) (hx : x < 18446744073709551616) : ∃ s, ∀ x', Rel x' x → ∀ w, ∃ r n, (callFunc 41 #[.float .f64 x']).run Yba.prog w = .ok (.value (.float .f64 r)) (w.drewN n) ∧ Rel r s := by
  by_cases hn : NaN x
  · refine ⟨QN, fun x' hr w => ?_⟩
    have hx' : NaN x' := by
      rcases hr with ⟨rfl, _⟩ | ⟨h', _⟩
      · exact hn
      · exact h'
    have h1 := hx'.1; have h2 := hx'.2
    unfold rungOf at h2
    have c1 : (x' % 2 ^ 63 == 0) = false := beq_false_of_ne (by omega)
    rw [log41]
    delta Extern.MathLog.archLog Extern.MathLog.archLog.match_1
    dsimp only
    rw [dif_pos (by rfl)]
    generalize hg : Array.getLit _ _ _ _ = g
    obtain rfl : Value.float .f64 x' = g := hg
    delta Extern.MathLog.archLog._sparseCasesOn_1 Extern.MathLog.archLog._sparseCasesOn_2
    dsimp only
    simp only [c1, Bool.false_eq_true, if_false]
    by_cases hb : x' ≥ 2 ^ 63
    · refine ⟨Extern.MathAsm.nan, 0, ?_, Rel.nan ?_ QN_nan⟩
      · simp only [if_pos hb]; rfl
      · unfold NaN rungOf Extern.MathAsm.nan; omega
    · refine ⟨x', 0, ?_, Rel.nan hx' QN_nan⟩
      have c3 : x' ≥ Extern.MathAsm.posInf := by unfold Extern.MathAsm.posInf; omega
      simp only [if_neg hb, if_pos c3]; rfl
  · have same : ∀ x', Rel x' x → x' = x := fun x' hr => by
      rcases hr with ⟨e, _⟩ | ⟨_, h⟩
      · exact e
      · exact (hn h).elim
    have hm : ¬ 9218868437227405312 < rungOf x := fun h => hn ⟨hx, h⟩
    unfold rungOf at hm
    by_cases h0 : x % 9223372036854775808 = 0
    · refine ⟨Extern.MathAsm.negInf, fun x' hr w => ⟨Extern.MathAsm.negInf, 0, ?_, Rel.refl (by decide)⟩⟩
      rw [same x' hr, log41]
      delta Extern.MathLog.archLog Extern.MathLog.archLog.match_1
      dsimp only
      rw [dif_pos (by rfl)]
      generalize hg : Array.getLit _ _ _ _ = g
      obtain rfl : Value.float .f64 x = g := hg
      delta Extern.MathLog.archLog._sparseCasesOn_1 Extern.MathLog.archLog._sparseCasesOn_2
      dsimp only
      have c1 : (x % 2 ^ 63 == 0) = true := by rw [beq_iff_eq]; exact h0
      simp only [c1, if_true]; rfl
    · have c1 : (x % 2 ^ 63 == 0) = false := beq_false_of_ne h0
      by_cases hb : x ≥ 2 ^ 63
      · refine ⟨Extern.MathAsm.nan, fun x' hr w => ⟨Extern.MathAsm.nan, 0, ?_, Rel.refl (by decide)⟩⟩
        rw [same x' hr, log41]
        delta Extern.MathLog.archLog Extern.MathLog.archLog.match_1
        dsimp only
        rw [dif_pos (by rfl)]
        generalize hg : Array.getLit _ _ _ _ = g
        obtain rfl : Value.float .f64 x = g := hg
        delta Extern.MathLog.archLog._sparseCasesOn_1 Extern.MathLog.archLog._sparseCasesOn_2
        dsimp only
        simp only [c1, Bool.false_eq_true, if_false, if_pos hb]; rfl
      · by_cases hp : x ≥ Extern.MathAsm.posInf
        · refine ⟨x, fun x' hr w => ⟨x, 0, ?_, Rel.refl hx⟩⟩
          rw [same x' hr, log41]
          delta Extern.MathLog.archLog Extern.MathLog.archLog.match_1
          dsimp only
          rw [dif_pos (by rfl)]
          generalize hg : Array.getLit _ _ _ _ = g
          obtain rfl : Value.float .f64 x = g := hg
          delta Extern.MathLog.archLog._sparseCasesOn_1 Extern.MathLog.archLog._sparseCasesOn_2
          dsimp only
          simp only [c1, Bool.false_eq_true, if_false, if_neg hb, if_pos hp]; rfl
        · unfold Extern.MathAsm.posInf at hp
          obtain ⟨s, hs⟩ := arch_num (P := Yba.prog) x (by omega) (by omega)
          refine ⟨s, fun x' hr w => ?_⟩
          obtain ⟨_, n, e, r, rfl, hr'⟩ := hs w
          refine ⟨r, n, ?_, hr'⟩
          rw [same x' hr, log41, Sem.run_bind, e]; rfl
set_option maxRecDepth 20000 in
theorem log_any (x : Nat) (hx : x < 18446744073709551616) : ∃ s, Lg x s := by
  obtain ⟨s, hs⟩ := arch_any x hx
  refine ⟨s, fun x' hr w => ?_⟩
  obtain ⟨r, n, e, hr'⟩ := hs x' hr w
  clear hs hr hx
  go_enter Yba.func29, Yba.ntmps29
  go_wp2
  go_ret
  exact ⟨_, _, rfl, hr', rfl⟩

namespace Mul64
theorem maskN (a : Nat) (ha : a < 18446744073709551616) : bits .and .u64 (a : Int) 4294967295 = ((a % 4294967296 : Nat) : Int) := by
  have h := bits_and_u64_nat a 4294967295 ha (by omega)
  have e : a &&& 4294967295 = a % 4294967296 := Nat.and_two_pow_sub_one_eq_mod a 32
  rw [e] at h
  exact h
theorem divN (a : Nat) : (a : Int) / 4294967296 = ((a / 4294967296 : Nat) : Int) := by omega
theorem mulN (a b : Nat) : (a : Int) * (b : Int) = ((a * b : Nat) : Int) := (Int.natCast_mul a b).symm
theorem addN (a b : Nat) : (a : Int) + (b : Int) = ((a + b : Nat) : Int) := (Int.natCast_add a b).symm
theorem wrapN (a : Nat) (ha : a < 18446744073709551616) : IntKind.u64.wrap (a : Int) = (a : Int) := by rw [IntKind.wrap_u64]; omega
theorem wrapM (a : Nat) : IntKind.u64.wrap (a : Int) = ((a % 18446744073709551616 : Nat) : Int) := by rw [IntKind.wrap_u64]; omega
end Mul64

set_option maxHeartbeats 1000000 in
/-- math/bits.Mul64 (after the shelf's own walk). -/
theorem mul64_nat (x y : Nat) (hx : x < 18446744073709551616) (hy : y < 18446744073709551616) (w : World) :
    Calls Yba.prog 18 #[.int .u64 x, .int .u64 y] w fun e w' => e = .returned (.tuple #[.int .u64 ((x * y / 18446744073709551616 : Nat) : Int), .int .u64 ((x * y % 18446744073709551616 : Nat) : Int)]) ∧ w = w' := by
  obtain ⟨bd, bt, bw, hhi⟩ := Lib.mul64_hi x y hx hy
  have ba := Lib.half_mul_le (a := x / 4294967296) (b := y / 4294967296) (by omega) (by omega)
  have bb := Lib.half_mul_le (a := x / 4294967296) (b := y % 4294967296) (by omega) (by omega)
  have bc := Lib.half_mul_le (a := x % 4294967296) (b := y / 4294967296) (by omega) (by omega)
  have ba' : x / 4294967296 * (y / 4294967296) < 18446744073709551616 := by omega
  have bb' : x / 4294967296 * (y % 4294967296) < 18446744073709551616 := by omega
  have bc' : x % 4294967296 * (y / 4294967296) < 18446744073709551616 := by omega
  have bh1 : x / 4294967296 * (y / 4294967296) + (x / 4294967296 * (y % 4294967296) + x % 4294967296 * (y % 4294967296) / 4294967296) / 4294967296 < 18446744073709551616 := by omega
  have bh : x / 4294967296 * (y / 4294967296) + (x / 4294967296 * (y % 4294967296) + x % 4294967296 * (y % 4294967296) / 4294967296) / 4294967296 + ((x / 4294967296 * (y % 4294967296) + x % 4294967296 * (y % 4294967296) / 4294967296) % 4294967296 + x % 4294967296 * (y / 4294967296)) / 4294967296 < 18446744073709551616 := by omega
  go_enter Yba.func18, Yba.ntmps18
  go_wp2
  simp only [Mul64.maskN x hx, Mul64.maskN y hy, Mul64.divN, Mul64.mulN, Mul64.addN, Mul64.wrapN _ bd, Mul64.wrapN _ bb', Mul64.wrapN _ bt, Mul64.maskN _ bt, Mul64.wrapN _ bc', Mul64.wrapN _ bw, Mul64.wrapN _ ba', Mul64.wrapN _ bh1, Mul64.wrapN _ bh, Mul64.wrapM (x * y)]
  rw [hhi]
  go_ret2
  exact ⟨rfl, rfl⟩

/-- (d - m)(d + m), as the program reckons it. -/
def sqP (d m : Nat) : Nat := (d - m) * ((d + m) % 18446744073709551616)
def sqF (d m : Nat) : Nat := fop .add (fop .mul (floatOfInt .f64 ((sqP d m / 18446744073709551616 : Nat) : Int)) 4895412794951729152) (floatOfInt .f64 ((sqP d m % 18446744073709551616 : Nat) : Int))
theorem wrap_sub (d m : Nat) (hd : d < 18446744073709551616) (hm : m ≤ d) : IntKind.u64.wrap ((d : Int) - (m : Int)) = ((d - m : Nat) : Int) := by rw [IntKind.wrap_u64]; omega
theorem wrap_add (d m : Nat) : IntKind.u64.wrap ((d : Int) + (m : Int)) = (((d + m) % 18446744073709551616 : Nat) : Int) := by rw [IntKind.wrap_u64]; omega

set_option maxRecDepth 20000 in
set_option maxHeartbeats 1000000 in
theorem squares (d m : Nat) (hd : d < 18446744073709551616) (hm : m ≤ d) (w : World) :
    Calls Yba.prog 40 #[.int .u64 d, .int .u64 m] w fun e w' => ∃ r n, e = .returned (.float .f64 r) ∧ Rel r (sqF d m) ∧ w' = w.drewN n := by
  have h1 := wrap_sub d m hd hm
  have h2 := wrap_add d m
  have h3 := mul64_nat (d - m) ((d + m) % 18446744073709551616) (by omega) (by omega)
  have e3 : (d - m) * ((d + m) % 18446744073709551616) = sqP d m := rfl
  rw [e3] at h3
  have eS : sqF d m = fop .add (fop .mul (floatOfInt .f64 ((sqP d m / 18446744073709551616 : Nat) : Int)) 4895412794951729152) (floatOfInt .f64 ((sqP d m % 18446744073709551616 : Nat) : Int)) := rfl
  generalize ((sqP d m / 18446744073709551616 : Nat) : Int) = ph at *
  generalize ((sqP d m % 18446744073709551616 : Nat) : Int) = pl at *
  rw [eS]
  have i1 := rel_int ph
  have i2 := rel_int pl
  obtain ⟨dm, hdm⟩ : ∃ dm : Int, dm = ((d - m : Nat) : Int) := ⟨_, rfl⟩
  obtain ⟨ds, hds⟩ : ∃ ds : Int, ds = (((d + m) % 18446744073709551616 : Nat) : Int) := ⟨_, rfl⟩
  rw [← hdm] at h1 h3
  rw [← hds] at h2 h3
  clear hdm hds eS e3
  go_enter Yba.func40, Yba.ntmps40
  go_wp2_with (first
    | (go_at_call 18; refine (h3 _).mono ?_; rintro e w' ⟨rfl, rfl⟩)
    | (refine wpList_float rfl _ _ _ _ _ rfl rfl rfl rfl (by first | assumption | exact Rel.refl (by decide)) (by first | assumption | exact Rel.refl (by decide)) ?_; intro r n hr))
  go_ret
  exact ⟨_, _, rfl, by assumption, rfl⟩
end Go.Proofs.Ybulkdpsg

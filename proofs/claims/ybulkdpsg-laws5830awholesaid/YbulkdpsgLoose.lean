/-
  REGIONS THAT DRAW THEIR ORDER AND HOLD OPERATIONS WHOSE VALUE HANGS ON A DRAW (a float operation that gives a NaN: its bits are drawn): ONE WALK OF THE LEXICAL ORDER SERVES EVERY ORDER. After the library's Derived/Deep/Quiet.lean, whose operations yield ONE value each; here each yields one of A SET of values: what it can yield in some world of the class 'w after some draws'. A callee is told by a table 'Kt f args v': what it may hand back. No toy's name stands here.
-/
import Derived.Deep.Quiet
namespace Go.Proofs.Ybulkdpsg
open Go

section
variable {P : Program} {ops : Array Oper} {md : Region.Mode} {W : World} {Kt : FuncId → Array Value → Value → Prop}

/-- The operation does not fail, and leaves a world of the class. -/
def safeUpon (P : Program) (W : World) (Kt : FuncId → Array Value → Value → Prop) : Result Next → Prop
  | .ok (.value _) w' => ∃ m, w' = W.drewN m
  | .ok .skip w' => ∃ m, w' = W.drewN m
  | .ok (.enter f args) w' => (∃ m, w' = W.drewN m) ∧ Calls P f args w' (fun e w'' => ∃ v, e = .returned v ∧ Kt f args v ∧ ∃ m, w'' = W.drewN m)
  | _ => False
/-- What it may yield. -/
def outUpon (Kt : FuncId → Array Value → Value → Prop) (v : Value) : Result Next → Prop
  | .ok (.value u) _ => v = u
  | .ok .skip _ => v = undef
  | .ok (.enter f args) _ => Kt f args v
  | _ => False

def Safe (P : Program) (W : World) (Kt : FuncId → Array Value → Value → Prop) (ops : Array Oper) (o : Oper) (a : Act) : Prop :=
  Region.wanted o (yielded ops a.tmps) = true → ∀ n, safeUpon P W Kt ((execOp a.eval o).run P (W.drewN n))
def Out (P : Program) (W : World) (Kt : FuncId → Array Value → Value → Prop) (ops : Array Oper) (o : Oper) (a : Act) (v : Value) : Prop :=
  (Region.wanted o (yielded ops a.tmps) = true ∧ ∃ n, outUpon Kt v ((execOp a.eval o).run P (W.drewN n))) ∨ (Region.wanted o (yielded ops a.tmps) = false ∧ v = undef)

/-- The lexical walk. -/
def wpLoose (P : Program) (W : World) (Kt : FuncId → Array Value → Value → Prop) (ops : Array Oper) (Q : Act → Prop) : List Oper → Act → Prop
  | [], a => Q a
  | o :: rest, a => Safe P W Kt ops o a ∧ ∀ v, Out P W Kt ops o a v → wpLoose P W Kt ops Q rest (a.put o.dst v)

/-- Operation number i comes up. -/
def lOp (P : Program) (W : World) (Kt : FuncId → Array Value → Value → Prop) (ops : Array Oper) (i : Nat) (K : Act → Prop) (a : Act) : Prop :=
  match ops[i]? with
  | none => K a
  | some o => Safe P W Kt ops o a ∧ ∀ v, Out P W Kt ops o a v → K (a.put o.dst v)

theorem lOp_mono {i : Nat} {a : Act} {K K' : Act → Prop} (h : ∀ a, K a → K' a) (hh : lOp P W Kt ops i K a) : lOp P W Kt ops i K' a := by
  unfold lOp at *
  split
  · exact h _ (by simpa [*] using hh)
  · rename_i o ho
    simp only [ho] at hh
    exact ⟨hh.1, fun v hv => h _ (hh.2 v hv)⟩

def wpAnyL (P : Program) (W : World) (Kt : FuncId → Array Value → Value → Prop) (md : Region.Mode) (ops : Array Oper) (Q : Act → Prop) : Nat → Array Bool → Act → Prop
  | 0, listed, a => Region.ready md ops listed = [] ∧ Q a
  | fuel + 1, listed, a =>
    (Region.ready md ops listed = [] → Q a) ∧
    ∀ i ∈ Region.ready md ops listed, lOp P W Kt ops i (wpAnyL P W Kt md ops Q fuel (listed.setIfInBounds i true)) a

theorem wp_of_loose {o : Oper} {a : Act} {K : Act → Prop} {K' : Act → World → Prop} {Q' : Exit → Act → World → Prop} {n : Nat} (hwt : Region.wanted o (yielded ops a.tmps) = true)
    (h : ∀ a m, K a → K' a (W.drewN m)) (hs : Safe P W Kt ops o a) (hn : ∀ v, Out P W Kt ops o a v → K (a.put o.dst v)) : o.wp P a (W.drewN n) K' Q' := by
  have h3 := hs hwt n
  have h4 : ∀ v, outUpon Kt v ((execOp a.eval o).run P (W.drewN n)) → K (a.put o.dst v) := fun v hv => hn v (.inl ⟨hwt, n, hv⟩)
  unfold Oper.wp
  generalize (execOp a.eval o).run P (W.drewN n) = r at *
  cases r with
  | ok nx w' =>
    cases nx <;> simp only [safeUpon] at h3 <;> simp only [outUpon] at h4 <;> simp only [Oper.upon]
    case value u =>
      obtain ⟨m, rfl⟩ := h3
      exact h _ _ (h4 _ rfl)
    case skip =>
      obtain ⟨m, rfl⟩ := h3
      exact h _ _ (h4 _ rfl)
    case enter f args =>
      obtain ⟨⟨m, rfl⟩, hc⟩ := h3
      exact hc.mono fun e w'' ⟨v, he, hk, m', hm'⟩ => by subst he; subst hm'; exact h _ _ (h4 _ hk)
  | halt x w' => simp only [safeUpon] at h3

theorem wpOp_of_lOp {i : Nat} {a : Act} {K : Act → Prop} {K' : Act → World → Prop} {Q' : Exit → Act → World → Prop} {n : Nat} (h : ∀ a m, K a → K' a (W.drewN m)) (hh : lOp P W Kt ops i K a) : wpOp P ops Q' i K' a (W.drewN n) := by
  unfold lOp at hh
  unfold wpOp
  split
  · rename_i ho; simp only [ho] at hh; exact h _ _ hh
  · rename_i o ho
    simp only [ho] at hh
    by_cases hw : Region.wanted o (yielded ops a.tmps) = true
    · rw [if_pos hw]; exact .inl (wp_of_loose hw h hh.1 hh.2)
    · rw [if_neg hw]; exact h _ _ (hh.2 undef (.inr ⟨by simpa using hw, rfl⟩))

theorem wpAny_of_loose {Q : Act → Prop} {Q' : Exit → Act → World → Prop} (hQ : ∀ a m, Q a → Q' .normal a (W.drewN m)) : ∀ (fuel : Nat) (listed : Array Bool) (a : Act) (n : Nat),
    wpAnyL P W Kt md ops Q fuel listed a → wpAny P md ops Q' fuel listed a (W.drewN n)
  | 0, _, _, _, h => ⟨h.1, hQ _ _ h.2⟩
  | fuel + 1, _, _, _, h => ⟨fun h0 => hQ _ _ (h.1 h0), fun i hi => wpOp_of_lOp (fun a' m => wpAny_of_loose hQ fuel _ a' m) (h.2 i hi)⟩

/-- Something is yielded. -/
theorem out_some {o : Oper} {a : Act} (hs : Safe P W Kt ops o a) : ∃ v, Out P W Kt ops o a v := by
  by_cases hw : Region.wanted o (yielded ops a.tmps) = true
  · have h3 := hs hw 0
    have h4 : ∀ v, outUpon Kt v ((execOp a.eval o).run P (W.drewN 0)) → Out P W Kt ops o a v := fun v hv => .inl ⟨hw, 0, hv⟩
    generalize (execOp a.eval o).run P (W.drewN 0) = r at *
    cases r with
    | ok nx w' =>
      cases nx <;> simp only [safeUpon] at h3
      case value u => exact ⟨u, h4 u rfl⟩
      case skip => exact ⟨undef, h4 undef rfl⟩
      case enter f args =>
        obtain ⟨e, w1, fr, ⟨v, _, hk, _⟩, _⟩ := h3.2 []
        exact ⟨v, h4 v hk⟩
    | halt x w' => simp only [safeUpon] at h3
  · exact ⟨undef, .inr ⟨by simpa using hw, rfl⟩⟩

theorem safe_put {o : Oper} {a : Act} {dst : Option Tmp} {v : Value} (hs : ∀ cs b, o.op ≠ .select cs b) (h : ∀ d, dst = some d → d ∉ o.looksAt ops) : Safe P W Kt ops o (a.put dst v) ↔ Safe P W Kt ops o a := by
  unfold Safe
  rw [execOp_put (ops := ops) o hs a dst v h, wanted_put (ops := ops) o a dst v h]
theorem out_put {o : Oper} {a : Act} {dst : Option Tmp} {v u : Value} (hs : ∀ cs b, o.op ≠ .select cs b) (h : ∀ d, dst = some d → d ∉ o.looksAt ops) : Out P W Kt ops o (a.put dst v) u ↔ Out P W Kt ops o a u := by
  unfold Out
  rw [execOp_put (ops := ops) o hs a dst v h, wanted_put (ops := ops) o a dst v h]

/-- Two operations that are apart change places. -/
theorem lOp_put {j : Nat} {oi oj : Oper} (hj : ops[j]? = some oj) (hap : oi.apart ops oj = true) (hsi : ∀ cs b, oi.op ≠ .select cs b) (hsj : ∀ cs b, oj.op ≠ .select cs b) {K : Act → Prop} {a : Act}
    (hy : Safe P W Kt ops oi a) (h : ∀ v, Out P W Kt ops oi a v → lOp P W Kt ops j K (a.put oi.dst v)) :
    lOp P W Kt ops j (fun a' => Safe P W Kt ops oi a' ∧ ∀ v, Out P W Kt ops oi a' v → K (a'.put oi.dst v)) a := by
  obtain ⟨h1, h2, h3⟩ := Oper.apart_spec hap
  unfold lOp at *
  simp only [hj] at *
  obtain ⟨v0, hv0⟩ := out_some hy
  refine ⟨(safe_put hsj h1).1 (h v0 hv0).1, fun u hu => ⟨(safe_put hsi h3).2 hy, fun v hv => ?_⟩⟩
  have hv' := (out_put hsi h3).1 hv
  rw [← Act.put_comm a v u h2]
  exact (h v hv').2 u ((out_put hsj h1).2 hu)

theorem wpAnyL_first {Q : Act → Prop} {i : Nat} {oi : Oper} (hi : ops[i]? = some oi) (hsel : ∀ (j : Nat) (o : Oper) cs b, ops[j]? = some o → o.op ≠ .select cs b) :
    ∀ (fuel : Nat) (listed : Array Bool) (a : Act),
      (∀ j oj, ops[j]? = some oj → j ≠ i → listed.getD j true = false → (∀ e ∈ oj.after, Region.binds md e = true → e.on ≠ i) → oi.apart ops oj = true) →
      i ∈ Region.ready md ops listed → Safe P W Kt ops oi a →
      (∀ v, Out P W Kt ops oi a v → wpAnyL P W Kt md ops Q fuel (listed.setIfInBounds i true) (a.put oi.dst v)) → wpAnyL P W Kt md ops Q (fuel + 1) listed a := by
  intro fuel
  induction fuel with
  | zero =>
    intro listed a _ hr hy H
    refine ⟨fun h => (by rw [h] at hr; cases hr), fun j hj => ?_⟩
    by_cases hji : j = i
    · subst hji; unfold lOp; simp only [hi]; exact ⟨hy, H⟩
    · have := ready_mono hj hji
      obtain ⟨v0, hv0⟩ := out_some hy
      rw [(H v0 hv0).1] at this
      cases this
  | succ fuel ih =>
    intro listed a hfree hr hy H
    refine ⟨fun h => (by rw [h] at hr; cases hr), fun j hj => ?_⟩
    by_cases hji : j = i
    · subst hji; unfold lOp; simp only [hi]; exact ⟨hy, H⟩
    · obtain ⟨hjun, oj, hoj, hall⟩ := mem_ready.1 hj
      have hnot : ∀ e ∈ oj.after, Region.binds md e = true → e.on ≠ i := fun e he hb heq => by
        have h1 := hall e he hb
        have h0 := (mem_ready.1 hr).1
        rw [heq] at h1
        rcases Nat.lt_or_ge i listed.size with h' | h'
        · simp [h'] at h0 h1; rw [h0] at h1; cases h1
        · simp [Array.getElem?_eq_none h'] at h1
      have h2 := lOp_put hoj (hfree j oj hoj hji hjun hnot) (fun cs b => hsel i oi cs b hi) (fun cs b => hsel j oj cs b hoj) hy (fun v hv => (H v hv).2 j (ready_mono hj hji))
      have hfree' : ∀ k ok, ops[k]? = some ok → k ≠ i → (listed.setIfInBounds j true).getD k true = false →
          (∀ e ∈ ok.after, Region.binds md e = true → e.on ≠ i) → oi.apart ops ok = true := fun k ok hk hki hun hno => by
        refine hfree k ok hk hki ?_ hno
        by_cases hjk : j = k
        · subst hjk; exact hjun
        · rw [getD_set_ne true hjk] at hun; exact hun
      refine lOp_mono (fun a' h3 => ih (listed.setIfInBounds j true) a' hfree' (ready_mono hr (Ne.symm hji)) h3.1 (fun v hv => ?_)) h2
      rw [Array.setIfInBounds_comm _ _ hji]
      exact h3.2 v hv

theorem wpAnyL_lex {Q : Act → Prop} (hs : Region.noSelect ops = true) : ∀ (l : List Oper) (k : Nat) (listed : Array Bool) (a : Act), (∀ j, l[j]? = ops[k + j]?) →
    Region.lexFrom md ops l.length k listed = true → wpLoose P W Kt ops Q l a → wpAnyL P W Kt md ops Q l.length listed a
  | [], _, _, _, _, hB, h => ⟨by simpa [Region.lexFrom] using hB, h⟩
  | o :: l, k, listed, a, hl, hB, h => by
    have h0 : ops[k]? = some o := by simpa using (hl 0).symm
    simp only [List.length_cons, Region.lexFrom, Bool.and_eq_true] at hB
    obtain ⟨⟨hr, hf⟩, hB'⟩ := hB
    exact wpAnyL_first h0 (Region.noSelect_spec hs) l.length listed a (Region.free_spec h0 hf) (by simpa using hr) h.1
      (fun v hv => wpAnyL_lex hs l (k + 1) _ _ (fun j => by have := hl (j + 1); simpa [Nat.add_assoc, Nat.add_comm 1 j] using this) hB' (h.2 v hv))

/-- ONE WALK OF THE LEXICAL ORDER SERVES EVERY ORDER. -/
theorem wp_region_loose {id : Nat} {Q : Exit → Act → World → Prop} {a : Act} {l : List Oper} (Kt : FuncId → Array Value → Value → Prop) (hm : P.follows .mixedOrders = true) (hB : Region.lexB .any l.toArray = true)
    (h : wpLoose P W Kt l.toArray (fun a' => ∀ m, Q .normal a' (W.drewN m)) l a) : (Code.region id l.toArray true).wp P Q a W := by
  simp only [Region.lexB, Bool.and_eq_true] at hB
  refine wp_region_any hm (wpAny_of_loose (W := W) (Kt := Kt) (Q := fun a' => ∀ m, Q .normal a' (W.drewN m)) (fun _ m h => h m) _ _ _ 1 ?_)
  have := wpAnyL_lex (P := P) (W := W) (Kt := Kt) (md := .any) (Q := fun a' => ∀ m, Q .normal a' (W.drewN m)) hB.1 l 0 (Array.replicate l.toArray.size false) a (by simp) (by simpa using hB.2) h
  simpa using this

theorem wpLoose_nil {Q : Act → Prop} {a : Act} (h : Q a) : wpLoose P W Kt ops Q [] a := h
/-- One operation, what follows behind a variable. -/
theorem wpLoose_step {Q : Act → Prop} {a : Act} {o : Oper} {rest : List Oper}
    (h : ∀ K : Act → Prop, (∀ a, wpLoose P W Kt ops Q rest a → K a) → Safe P W Kt ops o a ∧ ∀ v, Out P W Kt ops o a v → K (a.put o.dst v)) : wpLoose P W Kt ops Q (o :: rest) a :=
  h _ (fun _ h => h)
/-- One value, in every world. -/
theorem wpLoose_val {Q : Act → Prop} {a : Act} {o : Oper} {rest : List Oper} {v : Value} (hr : ∀ n, (execOp a.eval o).run P (W.drewN n) = .ok (.value v) (W.drewN n)) (hw : Region.wanted o (yielded ops a.tmps) = true)
    (h : wpLoose P W Kt ops Q rest (a.put o.dst v)) : wpLoose P W Kt ops Q (o :: rest) a := by
  refine ⟨fun _ n => by rw [hr]; exact ⟨n, rfl⟩, fun u hu => ?_⟩
  rcases hu with ⟨_, n, hu⟩ | ⟨hu, _⟩
  · rw [hr] at hu
    obtain rfl : u = v := hu
    exact h
  · rw [hw] at hu; cases hu
/-- One of a set of values. -/
theorem wpLoose_set {Q : Act → Prop} {a : Act} {o : Oper} {rest : List Oper} (R : Value → Prop) (hr : ∀ n, ∃ v m, (execOp a.eval o).run P (W.drewN n) = .ok (.value v) (W.drewN m) ∧ R v) (hw : Region.wanted o (yielded ops a.tmps) = true)
    (h : ∀ v, R v → wpLoose P W Kt ops Q rest (a.put o.dst v)) : wpLoose P W Kt ops Q (o :: rest) a := by
  refine ⟨fun _ n => ?_, fun u hu => ?_⟩
  · obtain ⟨v, m, e, _⟩ := hr n
    rw [e]; exact ⟨m, rfl⟩
  · rcases hu with ⟨_, n, hu⟩ | ⟨hu, _⟩
    · obtain ⟨v, m, e, hv⟩ := hr n
      rw [e] at hu
      obtain rfl : u = v := hu
      exact h _ hv
    · rw [hw] at hu; cases hu
/-- A call. -/
theorem wpLoose_call {Q : Act → Prop} {a : Act} {o : Oper} {rest : List Oper} (f : FuncId) (args : Array Value) (hr : ∀ n, (execOp a.eval o).run P (W.drewN n) = .ok (.enter f args) (W.drewN n)) (hw : Region.wanted o (yielded ops a.tmps) = true)
    (hc : ∀ n, Calls P f args (W.drewN n) (fun e w'' => ∃ v, e = .returned v ∧ Kt f args v ∧ ∃ m, w'' = W.drewN m)) (h : ∀ v, Kt f args v → wpLoose P W Kt ops Q rest (a.put o.dst v)) : wpLoose P W Kt ops Q (o :: rest) a := by
  refine ⟨fun _ n => by rw [hr]; exact ⟨⟨n, rfl⟩, hc n⟩, fun u hu => ?_⟩
  rcases hu with ⟨_, n, hu⟩ | ⟨hu, _⟩
  · rw [hr] at hu
    exact h _ hu
  · rw [hw] at hu; cases hu
/-- Not wanted. -/
theorem wpLoose_not {Q : Act → Prop} {a : Act} {o : Oper} {rest : List Oper} (hw : Region.wanted o (yielded ops a.tmps) = false)
    (h : wpLoose P W Kt ops Q rest (a.put o.dst undef)) : wpLoose P W Kt ops Q (o :: rest) a := by
  refine ⟨fun hw' => (by rw [hw] at hw'; cases hw'), fun u hu => ?_⟩
  rcases hu with ⟨hu, _⟩ | ⟨_, rfl⟩
  · rw [hw] at hu; cases hu
  · exact h
end
end Go.Proofs.Ybulkdpsg

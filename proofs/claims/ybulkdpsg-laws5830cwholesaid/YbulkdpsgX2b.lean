/- S5830C: replay: more plain laws. -/
import Derived.Test.YbulkdpsgX2
namespace Go.Proofs.Ybulkdpsg
open Go Go.RowKit Go.Sort Go.Proofs Go.Lib
set_option linter.unusedVariables false
set_option linter.unusedSimpArgs false
section
variable {PL : (Nat → Nat) → World → MS → Prop} {base bt bru bs bw : Nat} {A : Par} {d : Array Tk} {ρ : Nat → Nat} {own own1 : Nat → Nat} {w wr : World} {s s' : MS} {I : Ids} {S : WSt} {vq : Value} {dq : Array En} {a a' now g : Nat}
/-- The placement has turned, nothing else. -/
theorem RI.moved (h : RI PL base bt bru bs A d ρ bw own w s I S vq dq a) {w3 : World} {own' : Nat → Nat} (p1 : PL own' w3 s) (p2 : OwnUp w own own') (p3 : FrT own TP w w3) :
    RI PL base bt bru bs A d ρ bw own' w3 s I S vq dq a ∧ FrT own (fun x => x ≠ 0) w w3 := by
  have nT : ∀ x, (1 ≤ x ∧ x < 40) ∨ x = 50 ∨ 200 ≤ x → ¬ TP x := fun x hx ht => by have := ht.1; have := ht.2; omega
  have lt1 : bru < w.heap.size := by obtain ⟨cr, h1, _⟩ := h.ru.row; exact h1.lt
  exact ⟨⟨h.ws.kept p3 p2 (fun x hx hh => nT x (by omega) hx), h.bw_, h.wr, h.tk.kept p3 p2 (nT 50 (by omega)), p1, h.ru.frT p3 (by rw [h.o1]; exact nT _ (by omega)), h.hq.frT p3 (by rw [h.o2]; exact nT _ (by omega)) (fun b hb => by rw [h.o3 b hb]; exact nT _ (by omega)), h.hp, by rw [p2 _ lt1]; exact h.o1, by rw [p2 _ h.hq.var.lt]; exact h.o2, fun b hb => by rw [p2 _ (h.hq.lt b hb)]; exact h.o3 b hb, h.mi, Nat.le_trans h.hb p3.size, h.ar, h.an⟩, p3.mono (fun x hx => by have := hx.1; omega)⟩
end
theorem RI.drew {PL : (Nat → Nat) → World → MS → Prop} {base bt bru bs bw : Nat} {A : Par} {d : Array Tk} {ρ own : Nat → Nat} {w : World} {s : MS} {I : Ids} {S : WSt} {vq : Value} {dq : Array En} {a : Nat} (hK : PLk PL) (h : RI PL base bt bru bs A d ρ bw own w s I S vq dq a) : RI PL base bt bru bs A d ρ bw own w.drew s I S vq dq a :=
  (h.moved (hK.kept h.pl (frT_drewN own (fun _ => False) w 1) (OwnUp.refl _ _) (fun x hx => hx.elim)) (OwnUp.refl _ _) (frT_drewN own TP w 1)).1
/-- (*workers).start, warm or cold. -/
theorem start38 {own : Nat → Nat} {w : World} {base nW nK sz : Nat} {pen : Int} {I : Ids} {S : WSt} (h : WS own w base nW nK sz sz pen I S) {v k : Nat} (hv : v < nW) (hk : k < nK) (hfree : 0 < S.free v) (hbase : base ≤ w.heap.size) :
    Calls Yba.prog 38 #[pn I.bw 0, .int .i64 (v : Int), .int .i64 (k : Int)] w fun e w' => e = .returned (.bool (decide (k ∉ (S.els v).map Prod.snd))) ∧ ∃ own' I' S', Started own own' w w' base nW nK sz pen I I' S S' v k := by
  by_cases hw : k ∈ (S.els v).map Prod.snd
  · rw [decide_eq_false (fun hh => hh hw)]
    exact start_warm h hv hk hfree hw
  · rw [decide_eq_true hw]
    by_cases hs : sz = 0
    · exact start_cold0 h hv hk hfree hw hs
    · exact start_cold h hv hk hfree hbase hw (by omega)
theorem tt_start {A : Par} {s : MS} {t v : Nat} (tt : ∀ i, i < A.n → s.started i = true → s.ended i = false → s.now ≤ s.en i) : ∀ i, i < A.n → (start A s t v).started i = true → (start A s t v).ended i = false → (start A s t v).now ≤ (start A s t v).en i := fun i h1 h2 h3 => by
  show s.now ≤ upd s.en t (enOf A s t v) i
  by_cases e : i = t
  · subst e; rw [upd_same]; unfold enOf; omega
  · rw [upd_other _ _ e]
    exact tt i h1 (by simpa [start, upd, e] using h2) h3
theorem cnt_start {A : Par} {s : MS} {t v : Nat} (ht : t < A.n) (hs : s.started t = false) : cnt A.n (start A s t v).started = cnt A.n s.started + 1 :=
  cnt_add A.n ht hs (upd_same _ _ _) (fun i _ hne => upd_other _ _ hne)
theorem agg79 (w : World) : (isAgg 79).run Yba.prog w = .ok true w := by kernel_rfl
theorem size79 (w : World) : (Go.sizeOf 79).run Yba.prog w = .ok 4 w := by kernel_rfl
theorem HqFr {base bs : Nat} {w w' : World} {vq : Value} {dq : Array En} {L : List Nat} (h : Hq w base bs vq dq) (hf : Fr L w w') (h1 : bs ∉ L) (h2 : ∀ b, vq.ownBlock = some b → b ∉ L) : Hq w' base bs vq dq := ⟨hf.row h.var h1, own_frW h.own hf h2, h.ne, h.hp⟩
end Go.Proofs.Ybulkdpsg

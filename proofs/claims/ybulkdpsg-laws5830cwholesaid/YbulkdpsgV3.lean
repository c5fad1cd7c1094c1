/- S5830C: the sticky placement as the machine sees it. -/
import Derived.Test.YbulkdpsgV2
import Derived.Test.YbulkdpsgT5
namespace Go.Proofs.Ybulkdpsg
open Go Go.RowKit Go.Sort Go.Proofs Go.Lib
set_option linter.unusedVariables false
set_option linter.unusedSimpArgs false

def wK (A : Par) (s : MS) (j k t : Nat) : Bool := waits A s j t && A.key t == k
structure PLsC (base bt bw br bs : Nat) (A : Par) (own : Nat → Nat) (w : World) (s : MS) (K : SId) (B : SSt) (R : RuSt) (vr vi : Value) : Prop where
  st : St own w base bt A.n bw br A.nJ A.nK K B
  ru : Ru own w base br vr vi R
  bs_ : K.bs = bs
  nJ : R.nJ = A.nJ
  wait : ∀ j, j < A.nJ → R.wait j = wait A s j
  inf : ∀ j, j < A.nJ → R.inf j = infl A s j
  adds : R.adds = A.nJ
  enq : R.enq = cnt A.n s.arrived
  starts : R.starts = cnt A.n s.started
  dones : R.dones = cnt A.n s.ended
  last : R.last ≤ (s.now : Int)
  started : ∀ t, t < A.n → B.started t = s.started t
  bk : ∀ j, j < A.nJ → ∀ k, B.bk j k = flt A.n (wK A s j k)
  wl : ∀ j, j < A.nJ → ns B (B.wl j) = flt A.n (waits A s j)
  wn : ∀ j, j < A.nJ → (B.wl j).length ≤ cnt A.n s.arrived
def PLs (base bt bw br bs : Nat) (A : Par) (own : Nat → Nat) (w : World) (s : MS) : Prop := ∃ K B R vr vi, PLsC base bt bw br bs A own w s K B R vr vi
theorem PLs.kept {base bt bw br bs : Nat} {A : Par} {own own' : Nat → Nat} {w w' : World} {s : MS} {T : Nat → Prop} (h : PLs base bt bw br bs A own w s) (hf : FrT own T w w') (hu : OwnUp w own own') (hT : ∀ x, T x → ¬ TP x) : PLs base bt bw br bs A own' w' s := by
  obtain ⟨K, B, R, vr, vi, h⟩ := h
  exact ⟨K, B, R, vr, vi, { h with
    st := h.st.kept hf hu (fun x hx hh => hT x hx ⟨by omega, by omega, by omega⟩)
    ru := h.ru.kept hf hu (fun x hx => ⟨fun e => hT x hx ⟨by omega, by omega, by omega⟩, fun e => hT x hx ⟨by omega, by omega, by omega⟩, fun e => hT x hx ⟨by omega, by omega, by omega⟩⟩) }⟩
/-- Later, or with other ends of the tasks: the same. -/
theorem PLs.later {base bt bw br bs : Nat} {A : Par} {own : Nat → Nat} {w : World} {s : MS} (h : PLs base bt bw br bs A own w s) {x : Nat} (hx : s.now ≤ x) : PLs base bt bw br bs A own w { s with now := x } := by
  obtain ⟨K, B, R, vr, vi, h⟩ := h
  exact ⟨K, B, R, vr, vi, ⟨h.st, h.ru, h.bs_, h.nJ, h.wait, h.inf, h.adds, h.enq, h.starts, h.dones, by show R.last ≤ (x : Int); have := h.last; omega, h.started, h.bk, h.wl, h.wn⟩⟩
theorem ns_app (B : SSt) (l : List Nat) (t : Nat) (h : B.started t = false) : ns B (l ++ [t]) = ns B l ++ [t] := by
  unfold ns; rw [List.filter_append]; simp [h]
theorem arrS {base bt bw br bs : Nat} {A : Par} {own : Nat → Nat} {w : World} {s : MS} {d : Array Tk} {ρ : Nat → Nat} (hPB : PB A) (hTA : TA A d ρ) (h : PLs base bt bw br bs A own w s) (ht : Tks own w bt A.n A.nK d A.key) (hbase : base ≤ w.heap.size) (t : Nat) (htn : t < A.n) (ha : s.arrived t = false) (hs : s.started t = false) (hlt : ∀ i, s.arrived i = true → i < t) :
    Calls Yba.prog 97 #[pn bs 0, .int .i64 (t : Int)] w fun e w' => ArrPost (PLs base bt bw br bs A) own w s t e w' := by
  obtain ⟨K, B, R, vr, vi, h⟩ := h
  have hk := hPB.k t htn
  have hb1 := hPB.b1
  have hca := cnt_lt_n htn ha
  have hlk : (B.bk (A.job t) (A.key t)).length < 2048 := by
    rw [h.bk _ hk.1, flt_len]
    have := cnt_lt_n (p := wK A s (A.job t) (A.key t)) htn (by simp [wK, waits, ha])
    omega
  have hwle : wait A s (A.job t) ≤ A.n := cnt_le _ _
  have hcall := arrive97 h.st ht h.ru h.nJ hbase t (A.job t) (A.key t) htn (hTA.job t htn) hk.1 rfl (by have := h.wn _ hk.1; omega) hlk ⟨by rw [h.wait _ hk.1]; omega, by rw [h.enq]; omega⟩
  rw [h.bs_] at hcall
  refine hcall.mono ?_
  rintro e w' ⟨h1, own', K', h2, h3, h4, h5, h6⟩
  refine ⟨h1, own', ⟨K', _, _, vr, vi, ⟨h2, h4, h3, h.nJ, fun j hj => ?_, h.inf, h.adds, ?_, h.starts, h.dones, h.last, h.started, fun j hj k => ?_, fun j hj => ?_, fun j hj => ?_⟩⟩, h5, h6.mono (fun x hx => ⟨by omega, by omega, by omega⟩)⟩
  · rw [wait_arr htn ha hs j]
    show setN R.wait (A.job t) (R.wait (A.job t) + 1) j = _
    unfold setN
    by_cases e2 : j = A.job t
    · rw [if_pos e2, if_pos e2.symm, ← e2, h.wait j hj]
    · rw [if_neg e2, if_neg (fun hh => e2 hh.symm), h.wait j hj]; rfl
  · show R.enq + 1 = cnt A.n (upd s.arrived t true)
    rw [h.enq]
    exact (cnt_add A.n htn ha (upd_same _ _ _) (fun i _ hne => upd_other _ _ hne)).symm
  · show set2 B.bk (A.job t) (A.key t) (B.bk (A.job t) (A.key t) ++ [t]) j k = _
    by_cases e2 : j = A.job t ∧ k = A.key t
    · obtain ⟨rfl, rfl⟩ := e2
      rw [set2_same, h.bk _ hj]
      exact (flt_add htn (fun i hi hp => hlt i (by simp [wK, waits] at hp; exact hp.1.1.1)) (by simp [wK, waits, arrOne, upd, hs]) (fun i hi hne => by simp [wK, waits, arrOne, upd, hne])).symm
    · rw [set2_other _ _ e2, h.bk j hj]
      refine flt_congr fun i hi => ?_
      by_cases e3 : i = t
      · subst e3
        have : (A.job i == j && A.key i == k) = false := by
          cases hx : (A.job i == j && A.key i == k) with
          | false => rfl
          | true => simp at hx; exact absurd ⟨hx.1.symm, hx.2.symm⟩ e2
        simp only [wK, waits, Bool.and_assoc, this, Bool.and_false]
      · simp [wK, waits, arrOne, upd, e3]
  · show ns B (setL B.wl (A.job t) (B.wl (A.job t) ++ [t]) j) = _
    by_cases e2 : j = A.job t
    · subst e2
      rw [setL_same, ns_app B _ t (by rw [h.started t htn]; exact hs), h.wl _ hj]
      exact (flt_add htn (fun i hi hp => hlt i (by simp [waits] at hp; exact hp.1.1)) (by simp [waits, arrOne, upd, hs]) (fun i hi hne => by simp [waits, arrOne, upd, hne])).symm
    · rw [setL_other _ _ e2, h.wl j hj]
      refine flt_congr fun i hi => ?_
      by_cases e3 : i = t
      · subst e3
        have hb : (A.job i == j) = false := beq_false_of_ne (fun hh => e2 hh.symm)
        simp [waits, hb]
      · simp [waits, arrOne, upd, e3]
  · show (setL B.wl (A.job t) (B.wl (A.job t) ++ [t]) j).length ≤ cnt A.n (upd s.arrived t true)
    rw [cnt_add A.n htn ha (upd_same s.arrived t true) (fun i _ hne => upd_other _ _ hne)]
    by_cases e2 : j = A.job t
    · subst e2; rw [setL_same]; have := h.wn _ hj; simp; omega
    · rw [setL_other _ _ e2]; have := h.wn j hj; omega
theorem endS {base bt bw br bs : Nat} {A : Par} {own : Nat → Nat} {w : World} {s : MS} {d : Array Tk} {ρ : Nat → Nat} (hPB : PB A) (hTA : TA A d ρ) (h : PLs base bt bw br bs A own w s) (ht : Tks own w bt A.n A.nK d A.key) (t : Nat) (htn : t < A.n) (hs : s.started t = true) (he : s.ended t = false) :
    Calls Yba.prog 98 #[pn bs 0, .int .i64 (t : Int)] w fun e w' => EndPost (PLs base bt bw br bs A) own w s t e w' := by
  obtain ⟨K, B, R, vr, vi, h⟩ := h
  have hk := hPB.k t htn
  have hb1 := hPB.b1
  have hce := cnt_lt_n htn he
  have hpos : 0 < infl A s (A.job t) := cnt_pos.2 ⟨t, htn, by simp [flies, hs, he]⟩
  have hcall := ended98 h.st ht h.ru t (A.job t) htn (hTA.job t htn) (by rw [h.nJ]; exact hk.1) ⟨by rw [h.inf _ hk.1]; exact hpos, by rw [h.dones]; omega⟩
  rw [h.bs_] at hcall
  refine hcall.mono ?_
  rintro e w' ⟨h1, h2, h3⟩
  refine ⟨h1, own, ⟨K, B, _, vr, vi, ⟨h.st.kept h3 (OwnUp.refl _ _) (fun x hx => by omega), h2, h.bs_, h.nJ, h.wait, fun j hj => ?_, h.adds, h.enq, h.starts, ?_, h.last, h.started, h.bk, h.wl, h.wn⟩⟩, OwnUp.refl _ _, h3.mono (fun x hx => ⟨by omega, by omega, by omega⟩)⟩
  · have := infl_end htn hs he j
    show setN R.inf (A.job t) (R.inf (A.job t) - 1) j = _
    unfold setN
    by_cases e2 : j = A.job t
    · rw [if_pos e2, ← e2, h.inf j hj]; rw [if_pos e2.symm] at this; omega
    · rw [if_neg e2, h.inf j hj]; rw [if_neg (fun hh => e2 hh.symm)] at this; omega
  · show R.dones + 1 = cnt A.n (upd s.ended t true)
    rw [h.dones]
    exact (cnt_add A.n htn he (upd_same _ _ _) (fun i _ hne => upd_other _ _ hne)).symm
/-- The first of what is left by a sharper test. -/
theorem flt_sub {n t : Nat} {p q : Nat → Bool} {r : List Nat} (h : flt n p = t :: r) (hq : ∀ i, i < n → q i = true → p i = true) (hqt : q t = true) : ∃ l, flt n q = t :: l := by
  obtain ⟨h1, h2, h3⟩ := flt_head h
  cases hf : flt n q with
  | nil => have := flt_nil.1 hf t h1; rw [hqt] at this; cases this
  | cons x l =>
    obtain ⟨k1, k2, k3⟩ := flt_head hf
    have a := k3 t h1 hqt
    have b := h3 x k1 (hq x k1 k2)
    have : x = t := by omega
    subst this
    exact ⟨l, rfl⟩
theorem nextS {base bt br bs sz : Nat} {pen : Int} {A : Par} {own : Nat → Nat} {w : World} {s : MS} {I : Ids} {S : WSt} {d : Array Tk} {ρ : Nat → Nat} (hPB : PB A) (hTA : TA A d ρ) (hst : A.sticky = true) (hlt : A.lt = fun a b => a < b) (M : MI A s) (h : PLs base bt I.bw br bs A own w s) (ht : Tks own w bt A.n A.nK d A.key) (hw : WS own w base A.nW A.nK sz sz pen I S) (hr : WRel A s S) (hop : ∃ v, v < A.nW ∧ 0 < fr A s v) :
    Calls Yba.prog 99 #[pn bs 0, .int .i64 (s.now : Int)] w fun e w' => NextPost (PLs base bt I.bw br bs A) A own w s e w' := by
  obtain ⟨K, B, R, vr, vi, h⟩ := h
  have hb1 := hPB.b1
  have hcs : cnt A.n s.started ≤ A.n := cnt_le _ _
  have hW : ∀ j, j < A.nJ → ∀ t, W A s j t ↔ t < A.n ∧ waits A s j t = true := fun j hj t => by
    unfold W
    simp only [waits, Bool.and_eq_true, Bool.not_eq_eq_eq_not, Bool.not_true, beq_iff_eq]
    constructor
    · rintro ⟨a, b, c, e⟩; exact ⟨a, ⟨c, e⟩, b⟩
    · rintro ⟨a, ⟨c, e⟩, b⟩; exact ⟨a, b, c, e⟩
  have hcall := next99 h.st hw ht h.ru h.nJ hPB.b4.1 (s.now : Int) h.last (by rw [h.starts]; omega) (fun j hj => by rw [h.inf j hj]; have : infl A s j ≤ A.n := cnt_le _ _; omega)
    (fun j hj k t hm => by rw [h.bk j hj, flt_mem] at hm; simp [wK] at hm; exact hm.2.2)
    (fun j hj hp => by
      rw [h.wait j hj] at hp
      obtain ⟨i, h1, h2⟩ := cnt_pos.1 hp
      cases hf : flt A.n (waits A s j) with
      | nil => have := flt_nil.1 hf i h1; rw [h2] at this; cases this
      | cons t r =>
        refine ⟨t, r, by rw [h.wl j hj]; exact hf, ?_⟩
        rw [h.bk j hj]
        exact flt_sub hf (fun i hi hq => by simp [wK] at hq; exact hq.1) (by simp [wK, (flt_head hf).2.1]))
  rw [h.bs_] at hcall
  have hruq : ruL R.wait R.inf A.nJ = ruQ (wait A s) (infl A s) A.nJ := by rw [ruQ_eq]; exact ruQ_congr _ fun j hj => ⟨h.wait j hj, h.inf j hj⟩
  refine hcall.mono ?_
  rintro e w' ⟨hfr, ⟨h1, h2, h3, h4⟩ | ⟨j, t, v, l, wl', K', hj, h1, h2, h3, h4, h5, h6, h7, h8, h9, h10, h11⟩⟩
  · refine ⟨own, OwnUp.refl _ _, hfr.mono (fun x hx => ⟨by omega, by omega, by omega⟩), Or.inl ⟨?_, h2, K, B, _, vr, vi, ⟨h3, h4, h.bs_, h.nJ, h.wait, h.inf, h.adds, h.enq, h.starts, h.dones, Int.le_refl _, h.started, h.bk, h.wl, h.wn⟩⟩⟩
    unfold NoPick
    rw [hst]
    simp only [↓reduceIte]
    exact Or.inr (by rw [← hruq]; exact h1)
  · rw [h.bk j hj] at h4
    obtain ⟨a1, a2, a3⟩ := flt_head h4
    have a2' : waits A s j t = true := by simp [wK] at a2; exact a2
    have hWt : W A s j t := (hW j hj t).2 ⟨h3, a2'⟩
    have hkt := (hPB.k t h3).2.1
    have hbkW : ∀ t', W A s j t' → ∃ t'' l', B.bk j (A.key t') = t'' :: l' ∧ t'' ≤ t' := fun t' ht' => by
      have hw' := ((hW j hj t').1 ht').2
      cases hf : flt A.n (wK A s j (A.key t')) with
      | nil => have := flt_nil.1 hf t' ht'.1; simp [wK, hw'] at this
      | cons x l' => exact ⟨x, l', by rw [h.bk j hj]; exact hf, (flt_head hf).2.2 t' ht'.1 (by simp [wK, hw'])⟩
    -- the worker
    have hpick : ∃ u : Nat, v = (u : Int) ∧ PickS A s t u := by
      rcases h5 with ⟨b1, b2, b3⟩ | ⟨b1, ⟨r, b2⟩, b3⟩
      · rw [room_rm hw hr hkt] at b3
        have hne := (rm_held hr (A.key t)).1 b1
        rcases rmQ_rng (fr A s) (fun u => decide (A.key t ∈ s.mem u)) A.nW with ⟨c1, _⟩ | ⟨c, c1, _⟩
        · exact absurd c1 hne
        · have hv : v = (c : Int) := by rw [b3]; exact c1
          refine ⟨c, hv, j, by rw [← hruq]; exact h1, hWt, Or.inl ⟨c1, fun t' ht' hl => ?_⟩⟩
          by_cases z : rm A s (A.key t') = -1
          · exact z
          · exfalso
            obtain ⟨x, l', hx1, hx2⟩ := hbkW t' ht'
            have := b2 (A.key t') x l' ((rm_held hr _).2 z) hx1
            rw [hlt] at hl
            have hl' : t' < t := hl
            omega
      · rw [room_rmA hr] at b3
        rcases rmQ_rng (fr A s) (fun _ => true) A.nW with ⟨c1, c2⟩ | ⟨c, c1, _⟩
        · obtain ⟨u, hu1, hu2⟩ := hop
          have := c2 u hu1 rfl; omega
        · have hv : v = (c : Int) := by rw [b3]; exact c1
          rw [h.wl j hj] at b2
          obtain ⟨_, _, g3⟩ := flt_head b2
          refine ⟨c, hv, j, by rw [← hruq]; exact h1, hWt, Or.inr ⟨fun t' ht' => ?_, fun t' ht' => ?_, c1⟩⟩
          · by_cases z : rm A s (A.key t') = -1
            · exact z
            · exfalso
              obtain ⟨x, l', hx1, _⟩ := hbkW t' ht'
              have := b1 _ ((rm_held hr _).2 z)
              rw [hx1] at this; cases this
          · rw [hlt]
            have := g3 t' ht'.1 ((hW j hj t').1 ht').2
            show ¬ t' < t
            omega
    obtain ⟨u, rfl, hp⟩ := hpick
    have hPick : Pick A s t u := by unfold Pick; rw [hst]; exact hp
    have hte : s.ended t = false := by
      cases e2 : s.ended t with
      | false => rfl
      | true => have := M.es t e2; rw [hWt.2.2.2] at this; cases this
    have hjt : A.job t = j := hWt.2.1
    refine ⟨own, OwnUp.refl _ _, hfr.mono (fun x hx => ⟨by omega, by omega, by omega⟩), Or.inr ⟨t, u, hPick, h8, K', _, _, vr, vi, ⟨h10, h11, by rw [h9, h.bs_], h.nJ, fun i hi => ?_, fun i hi => ?_, h.adds, h.enq, ?_, h.dones, Int.le_refl _, fun i hi => ?_, fun i hi k => ?_, fun i hi => ?_, fun i hi => ?_⟩⟩⟩
    · have := wait_start (v := u) h3 hWt.2.2.1 hWt.2.2.2 i
      show setN R.wait j (R.wait j - 1) i = _
      unfold setN
      by_cases e2 : i = j
      · rw [if_pos e2, ← e2, h.wait i hi]; rw [if_pos (by omega)] at this; omega
      · rw [if_neg e2, h.wait i hi]; rw [if_neg (by omega)] at this; omega
    · have := infl_start (v := u) h3 hWt.2.2.2 hte i
      show setN R.inf j (R.inf j + 1) i = _
      unfold setN
      by_cases e2 : i = j
      · rw [if_pos e2, ← e2, h.inf i hi]; rw [if_pos (by omega)] at this; omega
      · rw [if_neg e2, h.inf i hi]; rw [if_neg (by omega)] at this; omega
    · show R.starts + 1 = cnt A.n (upd s.started t true)
      rw [h.starts]
      exact (cnt_add A.n h3 hWt.2.2.2 (upd_same _ _ _) (fun i _ hne => upd_other _ _ hne)).symm
    · show upd B.started t true i = upd s.started t true i
      unfold upd
      split
      · rfl
      · exact h.started i hi
    · show set2 B.bk j (A.key t) l i k = _
      by_cases e2 : i = j ∧ k = A.key t
      · obtain ⟨rfl, rfl⟩ := e2
        rw [set2_same]
        exact (flt_tail h4 (by simp [wK, waits, start, upd]) (fun x hx hne => by simp [wK, waits, start, upd, hne])).symm
      · rw [set2_other _ _ e2, h.bk i hi]
        refine flt_congr fun x hx => ?_
        by_cases e3 : x = t
        · subst e3
          have : (A.job x == i && A.key x == k) = false := by
            cases hh : (A.job x == i && A.key x == k) with
            | false => rfl
            | true => simp at hh; exact absurd ⟨by omega, hh.2.symm⟩ e2
          simp only [wK, waits, Bool.and_assoc, this, Bool.and_false]
        · simp [wK, waits, start, upd, e3]
    · show ns { wl := setL B.wl j wl', bk := set2 B.bk j (A.key t) l, started := upd B.started t true } (setL B.wl j wl' i) = _
      have hns : ∀ L : List Nat, ns { wl := setL B.wl j wl', bk := set2 B.bk j (A.key t) l, started := upd B.started t true } L = (ns B L).filter (fun x => x != t) := fun L => by
        unfold ns
        rw [List.filter_filter]
        refine List.filter_congr fun x _ => ?_
        show (!upd B.started t true x) = _
        unfold upd
        by_cases e2 : x = t
        · subst e2; simp
        · simp [e2]
      rw [hns]
      have hdel : flt A.n (waits A (start A s t u) i) = (flt A.n (waits A s i)).filter (fun x => x != t) := flt_del (by simp [waits, start, upd]) (fun x hx hne => by simp [waits, start, upd, hne])
      rw [hdel]
      by_cases e2 : i = j
      · subst e2; rw [setL_same, h6, h.wl i hi]
      · rw [setL_other _ _ e2, h.wl i hi]
    · show (setL B.wl j wl' i).length ≤ cnt A.n s.arrived
      by_cases e2 : i = j
      · subst e2; rw [setL_same]; have := h.wn i hi; omega
      · rw [setL_other _ _ e2]; exact h.wn i hi
end Go.Proofs.Ybulkdpsg

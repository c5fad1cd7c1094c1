/- S5830C: pushing in front, removing the last. -/
import Derived.Test.YbulkdpsgL1
namespace Go.Proofs.Ybulkdpsg
open Go Go.RowKit Go.Proofs Go.Lib
set_option linter.unusedVariables false
set_option linter.unusedSimpArgs false
theorem cell_drewN (w : World) (q : Nat) (a : Addr) : (w.drewN q).cell? a = w.cell? a := rfl
theorem Fr.setCells6 {S : List Nat} (w : World) (a1 a2 a3 a4 a5 a6 : Addr) (v1 v2 v3 v4 v5 v6 : Value) (h1 : a1.block ∈ S) (h2 : a2.block ∈ S) (h3 : a3.block ∈ S) (h4 : a4.block ∈ S) (h5 : a5.block ∈ S) (h6 : a6.block ∈ S) : Fr S w ((((((w.setCell a1 v1).setCell a2 v2).setCell a3 v3).setCell a4 v4).setCell a5 v5).setCell a6 v6) :=
  (((((Fr.setCell w _ _ h1).trans (Fr.setCell _ _ _ h2)).trans (Fr.setCell _ _ _ h3)).trans (Fr.setCell _ _ _ h4)).trans (Fr.setCell _ _ _ h5)).trans (Fr.setCell _ _ _ h6)
theorem Fr.extend {S T : List Nat} {a b c : World} (h : Fr S a b) (k : Fr T b c) (hT : ∀ i, i < a.heap.size → i ∈ T → i ∈ S) : Fr S a c :=
  ⟨k.os.trans h.os, k.tape.trans h.tape, k.output.trans h.output, Nat.le_trans h.size k.size, fun i hi hs => (k.block i (Nat.lt_of_lt_of_le hi h.size) (fun ht => hs (hT i hi ht))).trans (h.block i hi hs)⟩
set_option maxHeartbeats 400000 in
theorem push_0 (  ke bm ro N : Nat) (cm : Nat → Value) (w : World) (D : Dl w bm ro N cm ([] : List (Nat × Nat))) :
    Calls Yba.prog 49 #[pn bm ro, .iface 3 (.int .i64 (ke : Int))] w fun x w' => x = .returned (pn w.heap.size 0) ∧ ∃ cm', Dl w' bm ro N cm' ((w.heap.size, ke) :: ([] : List (Nat × Nat))) ∧ CmKeep ro cm cm' ∧ Fr (bm :: ([] : List (Nat × Nat)).map Prod.fst) w w' := by
  have hfit := D.fit
  have lm := D.row.lt
  have hp := push49 bm ro bm ro w 0 _ (ke : Int) (by have h := D.row.cell (i := ro) (by omega); rw [D.nx] at h; exact h) (by have h := D.row.cell (i := ro + 1) (by omega); rw [D.pv] at h; exact h) (by have h := D.row.cell (i := ro + 4) (by omega); rw [D.ln] at h; exact h) (D.row.frozen ro) (D.row.frozen (ro + 1)) (D.row.frozen (ro + 4)) lm lm (by simp) (by simp) (by omega) (by omega)
  refine hp.mono ?_
  clear hp
  rintro x w' ⟨rfl, rfl⟩
  refine ⟨rfl, ?_⟩
  have he := World.rowIs_alloc w #[.pointer none, .pointer none, .pointer none, .iface 3 (.int .i64 (ke : Int))] 116 (elF (.pointer none) (.pointer none) (.pointer none) ke) (four (by rfl) (by rfl) (by rfl) (by rfl))
  have fra := Fr.alloc (bm :: ([] : List (Nat × Nat)).map Prod.fst) w (.cells #[.pointer none, .pointer none, .pointer none, .iface 3 (.int .i64 (ke : Int))] 116)
  have gm := D.row.alloc (.cells #[.pointer none, .pointer none, .pointer none, .iface 3 (.int .i64 (ke : Int))] 116)
  obtain ⟨e, hee⟩ : ∃ e, w.heap.size = e := ⟨_, rfl⟩
  rw [hee] at he ⊢
  have nem : e ≠ bm := by omega
  have nme : bm ≠ e := by omega
  generalize w.alloc (.cells #[.pointer none, .pointer none, .pointer none, .iface 3 (.int .i64 (ke : Int))] 116) = W at *
  unfold insW
  refine ⟨_, ⟨((((((gm.setOther (a := ⟨e, 1, none⟩) nme _).setOther (a := ⟨e, 0, none⟩) nme _).set (ro) _).set (ro + 1) _).setOther (a := ⟨e, 2, none⟩) nme _).set (ro + 4) _), hfit, ?_, ?_, ?_, ?_⟩, ?_, ?_⟩
  · simp [hdP]
  · simp [ltP]
  · simp
  · exact (((((((he.set (1) _).set (0) _).setOther (a := ⟨bm, ro, none⟩) nem _).setOther (a := ⟨bm, ro + 1, none⟩) nem _).set (2) _).setOther (a := ⟨bm, ro + 4, none⟩) nem _)).congr (four (by simp [elF]) (by simp [elF]) (by simp [elF]) (by simp [elF]))
  · intro i h1 h2 h3; simp [h1, h2, h3]
  · refine fra.extend (Fr.setCells6 (S := e :: bm :: ([] : List (Nat × Nat)).map Prod.fst) W _ _ _ _ _ _ _ _ _ _ _ _ ?_ ?_ ?_ ?_ ?_ ?_) ?_
    · simp
    · simp
    · simp
    · simp
    · simp
    · simp
    · intro k hk hs; simp at hs ⊢; omega
set_option maxHeartbeats 400000 in
theorem push_1 (a ka ke bm ro N : Nat) (cm : Nat → Value) (w : World) (D : Dl w bm ro N cm ([(a, ka)] : List (Nat × Nat))) (nam : a ≠ bm) (nma : bm ≠ a) :
    Calls Yba.prog 49 #[pn bm ro, .iface 3 (.int .i64 (ke : Int))] w fun x w' => x = .returned (pn w.heap.size 0) ∧ ∃ cm', Dl w' bm ro N cm' ((w.heap.size, ke) :: ([(a, ka)] : List (Nat × Nat))) ∧ CmKeep ro cm cm' ∧ Fr (bm :: ([(a, ka)] : List (Nat × Nat)).map Prod.fst) w w' := by
  have hfit := D.fit
  have ha : El w bm ro (a, ka) (pn bm ro) (pn bm ro) := D.ch
  have lm := D.row.lt
  have la := ha.lt
  have hp := push49 bm ro a 0 w 1 _ (ke : Int) (by have h := D.row.cell (i := ro) (by omega); rw [D.nx] at h; exact h) (ha.cell (i := 1) (by omega)) (by have h := D.row.cell (i := ro + 4) (by omega); rw [D.ln] at h; exact h) (D.row.frozen ro) (ha.frozen 1) (D.row.frozen (ro + 4)) lm la (by simp [nma]) (by simp [nam]) (by omega) (by omega)
  refine hp.mono ?_
  clear hp
  rintro x w' ⟨rfl, rfl⟩
  refine ⟨rfl, ?_⟩
  have he := World.rowIs_alloc w #[.pointer none, .pointer none, .pointer none, .iface 3 (.int .i64 (ke : Int))] 116 (elF (.pointer none) (.pointer none) (.pointer none) ke) (four (by rfl) (by rfl) (by rfl) (by rfl))
  have fra := Fr.alloc (bm :: ([(a, ka)] : List (Nat × Nat)).map Prod.fst) w (.cells #[.pointer none, .pointer none, .pointer none, .iface 3 (.int .i64 (ke : Int))] 116)
  have ga := ha.alloc (.cells #[.pointer none, .pointer none, .pointer none, .iface 3 (.int .i64 (ke : Int))] 116)
  have gm := D.row.alloc (.cells #[.pointer none, .pointer none, .pointer none, .iface 3 (.int .i64 (ke : Int))] 116)
  obtain ⟨e, hee⟩ : ∃ e, w.heap.size = e := ⟨_, rfl⟩
  rw [hee] at he ⊢
  have nem : e ≠ bm := by omega
  have nme : bm ≠ e := by omega
  have nea : e ≠ a := by omega
  have nae : a ≠ e := by omega
  generalize w.alloc (.cells #[.pointer none, .pointer none, .pointer none, .iface 3 (.int .i64 (ke : Int))] 116) = W at *
  unfold insW
  refine ⟨_, ⟨((((((gm.setOther (a := ⟨e, 1, none⟩) nme _).setOther (a := ⟨e, 0, none⟩) nme _).set (ro) _).setOther (a := ⟨a, 1, none⟩) nma _).setOther (a := ⟨e, 2, none⟩) nme _).set (ro + 4) _), hfit, ?_, ?_, ?_, ?_⟩, ?_, ?_⟩
  · simp [hdP]
  · have := D.pv; simp [ltP] at this ⊢; exact this
  · simp
  · exact ⟨(((((((he.set (1) _).set (0) _).setOther (a := ⟨bm, ro, none⟩) nem _).setOther (a := ⟨a, 1, none⟩) nea _).set (2) _).setOther (a := ⟨bm, ro + 4, none⟩) nem _)).congr (four (by simp [elF]) (by simp [elF]) (by simp [elF]) (by simp [elF])), (((((((ga.setOther (a := ⟨e, 1, none⟩) nae _).setOther (a := ⟨e, 0, none⟩) nae _).setOther (a := ⟨bm, ro, none⟩) nam _).set (1) _).setOther (a := ⟨e, 2, none⟩) nae _).setOther (a := ⟨bm, ro + 4, none⟩) nam _)).congr (four (by simp [elF]) (by simp [elF]) (by simp [elF]) (by simp [elF]))⟩
  · intro i h1 h2 h3; simp [h1, h2, h3]
  · refine fra.extend (Fr.setCells6 (S := e :: bm :: ([(a, ka)] : List (Nat × Nat)).map Prod.fst) W _ _ _ _ _ _ _ _ _ _ _ _ ?_ ?_ ?_ ?_ ?_ ?_) ?_
    · simp
    · simp
    · simp
    · simp
    · simp
    · simp
    · intro k hk hs; simp at hs ⊢; omega
set_option maxHeartbeats 400000 in
theorem push_2 (a b ka kb ke bm ro N : Nat) (cm : Nat → Value) (w : World) (D : Dl w bm ro N cm ([(a, ka), (b, kb)] : List (Nat × Nat))) (nab : a ≠ b) (nam : a ≠ bm) (nba : b ≠ a) (nbm : b ≠ bm) (nma : bm ≠ a) (nmb : bm ≠ b) :
    Calls Yba.prog 49 #[pn bm ro, .iface 3 (.int .i64 (ke : Int))] w fun x w' => x = .returned (pn w.heap.size 0) ∧ ∃ cm', Dl w' bm ro N cm' ((w.heap.size, ke) :: ([(a, ka), (b, kb)] : List (Nat × Nat))) ∧ CmKeep ro cm cm' ∧ Fr (bm :: ([(a, ka), (b, kb)] : List (Nat × Nat)).map Prod.fst) w w' := by
  have hfit := D.fit
  have ha : El w bm ro (a, ka) (pn b 0) (pn bm ro) := D.ch.1
  have hb : El w bm ro (b, kb) (pn bm ro) (pn a 0) := D.ch.2
  have lm := D.row.lt
  have la := ha.lt
  have lb := hb.lt
  have hp := push49 bm ro a 0 w 2 _ (ke : Int) (by have h := D.row.cell (i := ro) (by omega); rw [D.nx] at h; exact h) (ha.cell (i := 1) (by omega)) (by have h := D.row.cell (i := ro + 4) (by omega); rw [D.ln] at h; exact h) (D.row.frozen ro) (ha.frozen 1) (D.row.frozen (ro + 4)) lm la (by simp [nma]) (by simp [nam]) (by omega) (by omega)
  refine hp.mono ?_
  clear hp
  rintro x w' ⟨rfl, rfl⟩
  refine ⟨rfl, ?_⟩
  have he := World.rowIs_alloc w #[.pointer none, .pointer none, .pointer none, .iface 3 (.int .i64 (ke : Int))] 116 (elF (.pointer none) (.pointer none) (.pointer none) ke) (four (by rfl) (by rfl) (by rfl) (by rfl))
  have fra := Fr.alloc (bm :: ([(a, ka), (b, kb)] : List (Nat × Nat)).map Prod.fst) w (.cells #[.pointer none, .pointer none, .pointer none, .iface 3 (.int .i64 (ke : Int))] 116)
  have ga := ha.alloc (.cells #[.pointer none, .pointer none, .pointer none, .iface 3 (.int .i64 (ke : Int))] 116)
  have gb := hb.alloc (.cells #[.pointer none, .pointer none, .pointer none, .iface 3 (.int .i64 (ke : Int))] 116)
  have gm := D.row.alloc (.cells #[.pointer none, .pointer none, .pointer none, .iface 3 (.int .i64 (ke : Int))] 116)
  obtain ⟨e, hee⟩ : ∃ e, w.heap.size = e := ⟨_, rfl⟩
  rw [hee] at he ⊢
  have nem : e ≠ bm := by omega
  have nme : bm ≠ e := by omega
  have nea : e ≠ a := by omega
  have nae : a ≠ e := by omega
  have neb : e ≠ b := by omega
  have nbe : b ≠ e := by omega
  generalize w.alloc (.cells #[.pointer none, .pointer none, .pointer none, .iface 3 (.int .i64 (ke : Int))] 116) = W at *
  unfold insW
  refine ⟨_, ⟨((((((gm.setOther (a := ⟨e, 1, none⟩) nme _).setOther (a := ⟨e, 0, none⟩) nme _).set (ro) _).setOther (a := ⟨a, 1, none⟩) nma _).setOther (a := ⟨e, 2, none⟩) nme _).set (ro + 4) _), hfit, ?_, ?_, ?_, ?_⟩, ?_, ?_⟩
  · simp [hdP]
  · have := D.pv; simp [ltP] at this ⊢; exact this
  · simp
  · exact ⟨(((((((he.set (1) _).set (0) _).setOther (a := ⟨bm, ro, none⟩) nem _).setOther (a := ⟨a, 1, none⟩) nea _).set (2) _).setOther (a := ⟨bm, ro + 4, none⟩) nem _)).congr (four (by simp [elF]) (by simp [elF]) (by simp [elF]) (by simp [elF])), (((((((ga.setOther (a := ⟨e, 1, none⟩) nae _).setOther (a := ⟨e, 0, none⟩) nae _).setOther (a := ⟨bm, ro, none⟩) nam _).set (1) _).setOther (a := ⟨e, 2, none⟩) nae _).setOther (a := ⟨bm, ro + 4, none⟩) nam _)).congr (four (by simp [elF]) (by simp [elF]) (by simp [elF]) (by simp [elF])), (((((((gb.setOther (a := ⟨e, 1, none⟩) nbe _).setOther (a := ⟨e, 0, none⟩) nbe _).setOther (a := ⟨bm, ro, none⟩) nbm _).setOther (a := ⟨a, 1, none⟩) nba _).setOther (a := ⟨e, 2, none⟩) nbe _).setOther (a := ⟨bm, ro + 4, none⟩) nbm _)).congr (four (by simp [elF]) (by simp [elF]) (by simp [elF]) (by simp [elF]))⟩
  · intro i h1 h2 h3; simp [h1, h2, h3]
  · refine fra.extend (Fr.setCells6 (S := e :: bm :: ([(a, ka), (b, kb)] : List (Nat × Nat)).map Prod.fst) W _ _ _ _ _ _ _ _ _ _ _ _ ?_ ?_ ?_ ?_ ?_ ?_) ?_
    · simp
    · simp
    · simp
    · simp
    · simp
    · simp
    · intro k hk hs; simp at hs ⊢; omega
set_option maxHeartbeats 400000 in
theorem push_3 (a b c ka kb kc ke bm ro N : Nat) (cm : Nat → Value) (w : World) (D : Dl w bm ro N cm ([(a, ka), (b, kb), (c, kc)] : List (Nat × Nat))) (nab : a ≠ b) (nac : a ≠ c) (nam : a ≠ bm) (nba : b ≠ a) (nbc : b ≠ c) (nbm : b ≠ bm) (nca : c ≠ a) (ncb : c ≠ b) (ncm : c ≠ bm) (nma : bm ≠ a) (nmb : bm ≠ b) (nmc : bm ≠ c) :
    Calls Yba.prog 49 #[pn bm ro, .iface 3 (.int .i64 (ke : Int))] w fun x w' => x = .returned (pn w.heap.size 0) ∧ ∃ cm', Dl w' bm ro N cm' ((w.heap.size, ke) :: ([(a, ka), (b, kb), (c, kc)] : List (Nat × Nat))) ∧ CmKeep ro cm cm' ∧ Fr (bm :: ([(a, ka), (b, kb), (c, kc)] : List (Nat × Nat)).map Prod.fst) w w' := by
  have hfit := D.fit
  have ha : El w bm ro (a, ka) (pn b 0) (pn bm ro) := D.ch.1
  have hb : El w bm ro (b, kb) (pn c 0) (pn a 0) := D.ch.2.1
  have hc : El w bm ro (c, kc) (pn bm ro) (pn b 0) := D.ch.2.2
  have lm := D.row.lt
  have la := ha.lt
  have lb := hb.lt
  have lc := hc.lt
  have hp := push49 bm ro a 0 w 3 _ (ke : Int) (by have h := D.row.cell (i := ro) (by omega); rw [D.nx] at h; exact h) (ha.cell (i := 1) (by omega)) (by have h := D.row.cell (i := ro + 4) (by omega); rw [D.ln] at h; exact h) (D.row.frozen ro) (ha.frozen 1) (D.row.frozen (ro + 4)) lm la (by simp [nma]) (by simp [nam]) (by omega) (by omega)
  refine hp.mono ?_
  clear hp
  rintro x w' ⟨rfl, rfl⟩
  refine ⟨rfl, ?_⟩
  have he := World.rowIs_alloc w #[.pointer none, .pointer none, .pointer none, .iface 3 (.int .i64 (ke : Int))] 116 (elF (.pointer none) (.pointer none) (.pointer none) ke) (four (by rfl) (by rfl) (by rfl) (by rfl))
  have fra := Fr.alloc (bm :: ([(a, ka), (b, kb), (c, kc)] : List (Nat × Nat)).map Prod.fst) w (.cells #[.pointer none, .pointer none, .pointer none, .iface 3 (.int .i64 (ke : Int))] 116)
  have ga := ha.alloc (.cells #[.pointer none, .pointer none, .pointer none, .iface 3 (.int .i64 (ke : Int))] 116)
  have gb := hb.alloc (.cells #[.pointer none, .pointer none, .pointer none, .iface 3 (.int .i64 (ke : Int))] 116)
  have gc := hc.alloc (.cells #[.pointer none, .pointer none, .pointer none, .iface 3 (.int .i64 (ke : Int))] 116)
  have gm := D.row.alloc (.cells #[.pointer none, .pointer none, .pointer none, .iface 3 (.int .i64 (ke : Int))] 116)
  obtain ⟨e, hee⟩ : ∃ e, w.heap.size = e := ⟨_, rfl⟩
  rw [hee] at he ⊢
  have nem : e ≠ bm := by omega
  have nme : bm ≠ e := by omega
  have nea : e ≠ a := by omega
  have nae : a ≠ e := by omega
  have neb : e ≠ b := by omega
  have nbe : b ≠ e := by omega
  have nec : e ≠ c := by omega
  have nce : c ≠ e := by omega
  generalize w.alloc (.cells #[.pointer none, .pointer none, .pointer none, .iface 3 (.int .i64 (ke : Int))] 116) = W at *
  unfold insW
  refine ⟨_, ⟨((((((gm.setOther (a := ⟨e, 1, none⟩) nme _).setOther (a := ⟨e, 0, none⟩) nme _).set (ro) _).setOther (a := ⟨a, 1, none⟩) nma _).setOther (a := ⟨e, 2, none⟩) nme _).set (ro + 4) _), hfit, ?_, ?_, ?_, ?_⟩, ?_, ?_⟩
  · simp [hdP]
  · have := D.pv; simp [ltP] at this ⊢; exact this
  · simp
  · exact ⟨(((((((he.set (1) _).set (0) _).setOther (a := ⟨bm, ro, none⟩) nem _).setOther (a := ⟨a, 1, none⟩) nea _).set (2) _).setOther (a := ⟨bm, ro + 4, none⟩) nem _)).congr (four (by simp [elF]) (by simp [elF]) (by simp [elF]) (by simp [elF])), (((((((ga.setOther (a := ⟨e, 1, none⟩) nae _).setOther (a := ⟨e, 0, none⟩) nae _).setOther (a := ⟨bm, ro, none⟩) nam _).set (1) _).setOther (a := ⟨e, 2, none⟩) nae _).setOther (a := ⟨bm, ro + 4, none⟩) nam _)).congr (four (by simp [elF]) (by simp [elF]) (by simp [elF]) (by simp [elF])), (((((((gb.setOther (a := ⟨e, 1, none⟩) nbe _).setOther (a := ⟨e, 0, none⟩) nbe _).setOther (a := ⟨bm, ro, none⟩) nbm _).setOther (a := ⟨a, 1, none⟩) nba _).setOther (a := ⟨e, 2, none⟩) nbe _).setOther (a := ⟨bm, ro + 4, none⟩) nbm _)).congr (four (by simp [elF]) (by simp [elF]) (by simp [elF]) (by simp [elF])), (((((((gc.setOther (a := ⟨e, 1, none⟩) nce _).setOther (a := ⟨e, 0, none⟩) nce _).setOther (a := ⟨bm, ro, none⟩) ncm _).setOther (a := ⟨a, 1, none⟩) nca _).setOther (a := ⟨e, 2, none⟩) nce _).setOther (a := ⟨bm, ro + 4, none⟩) ncm _)).congr (four (by simp [elF]) (by simp [elF]) (by simp [elF]) (by simp [elF]))⟩
  · intro i h1 h2 h3; simp [h1, h2, h3]
  · refine fra.extend (Fr.setCells6 (S := e :: bm :: ([(a, ka), (b, kb), (c, kc)] : List (Nat × Nat)).map Prod.fst) W _ _ _ _ _ _ _ _ _ _ _ _ ?_ ?_ ?_ ?_ ?_ ?_) ?_
    · simp
    · simp
    · simp
    · simp
    · simp
    · simp
    · intro k hk hs; simp at hs ⊢; omega
set_option maxHeartbeats 400000 in
theorem push_new (ke bm ro N : Nat) (cm : Nat → Value) (w : World) (D : Dl0 w bm ro N cm) :
    Calls Yba.prog 49 #[pn bm ro, .iface 3 (.int .i64 (ke : Int))] w fun x w' => x = .returned (pn w.heap.size 0) ∧ ∃ cm', Dl w' bm ro N cm' [(w.heap.size, ke)] ∧ CmKeep ro cm cm' ∧ Fr [bm] w w' := by
  have hfit := D.fit
  have lm := D.row.lt
  have hp := push49_new bm ro w _ _ (ke : Int) (by have h := D.row.cell (i := ro) (by omega); rw [D.nx] at h; exact h) (D.row.cell (i := ro + 1) (by omega)) (D.row.cell (i := ro + 4) (by omega)) (D.row.frozen ro) (D.row.frozen (ro + 1)) (D.row.frozen (ro + 4)) lm
  refine hp.mono ?_
  clear hp
  rintro x w' ⟨rfl, rfl⟩
  refine ⟨rfl, ?_⟩
  have g0 : (initW w bm ro).rowIs bm 120 N _ := (((D.row.set (ro) _).set (ro + 1) _).set (ro + 4) _)
  have f0 : Fr [bm] w (initW w bm ro) := by unfold initW; exact ((Fr.setCell w _ _ (by simp)).trans (Fr.setCell _ _ _ (by simp))).trans (Fr.setCell _ _ _ (by simp))
  have hsz : (initW w bm ro).heap.size = w.heap.size := by simp [initW, Deep.nblk_setCell]
  generalize initW w bm ro = W0 at *
  have he := World.rowIs_alloc W0 #[.pointer none, .pointer none, .pointer none, .iface 3 (.int .i64 (ke : Int))] 116 (elF (.pointer none) (.pointer none) (.pointer none) ke) (four (by rfl) (by rfl) (by rfl) (by rfl))
  have fra := f0.trans (Fr.alloc [bm] W0 (.cells #[.pointer none, .pointer none, .pointer none, .iface 3 (.int .i64 (ke : Int))] 116))
  have gm := g0.alloc (.cells #[.pointer none, .pointer none, .pointer none, .iface 3 (.int .i64 (ke : Int))] 116)
  rw [hsz] at he
  obtain ⟨e, hee⟩ : ∃ e, w.heap.size = e := ⟨_, rfl⟩
  rw [hee] at he ⊢
  have nem : e ≠ bm := by omega
  have nme : bm ≠ e := by omega
  generalize W0.alloc (.cells #[.pointer none, .pointer none, .pointer none, .iface 3 (.int .i64 (ke : Int))] 116) = W at *
  unfold insW
  refine ⟨_, ⟨((((((gm.setOther (a := ⟨e, 1, none⟩) nme _).setOther (a := ⟨e, 0, none⟩) nme _).set (ro) _).set (ro + 1) _).setOther (a := ⟨e, 2, none⟩) nme _).set (ro + 4) _), hfit, ?_, ?_, ?_, ?_⟩, ?_, ?_⟩
  · simp [hdP]
  · simp [ltP]
  · simp
  · exact (((((((he.set (1) _).set (0) _).setOther (a := ⟨bm, ro, none⟩) nem _).setOther (a := ⟨bm, ro + 1, none⟩) nem _).set (2) _).setOther (a := ⟨bm, ro + 4, none⟩) nem _)).congr (four (by simp [elF]) (by simp [elF]) (by simp [elF]) (by simp [elF]))
  · intro i h1 h2 h3; simp [h1, h2, h3]
  · refine fra.extend (Fr.setCells6 (S := [e, bm]) W _ _ _ _ _ _ _ _ _ _ _ _ ?_ ?_ ?_ ?_ ?_ ?_) ?_
    · simp
    · simp
    · simp
    · simp
    · simp
    · simp
    · intro k hk hs; simp at hs ⊢; omega
set_option maxHeartbeats 400000 in
theorem rmb_2 (a b ka kb bm ro N : Nat) (cm : Nat → Value) (w : World) (D : Dl w bm ro N cm ([(a, ka), (b, kb)] : List (Nat × Nat))) (nab : a ≠ b) (nam : a ≠ bm) (nba : b ≠ a) (nbm : b ≠ bm) (nma : bm ≠ a) (nmb : bm ≠ b) :
    Calls Yba.prog 51 #[pn bm ro, pn b 0] w fun x w' => x = .returned (.iface 3 (.int .i64 (kb : Int))) ∧ ∃ cm', Dl w' bm ro N cm' ([(a, ka)] : List (Nat × Nat)) ∧ CmKeep ro cm cm' ∧ Fr (bm :: ([(a, ka), (b, kb)] : List (Nat × Nat)).map Prod.fst) w w' := by
  have hfit := D.fit
  have ha : El w bm ro (a, ka) (pn b 0) (pn bm ro) := D.ch.1
  have hb : El w bm ro (b, kb) (pn bm ro) (pn a 0) := D.ch.2
  have hr := remove64 bm ro b a 0 bm ro w 2 _ _ _ (hb.cell (i := 0) (by omega)) (hb.cell (i := 1) (by omega)) (hb.cell (i := 2) (by omega)) (ha.cell (i := 0) (by omega)) (by have h := D.row.cell (i := ro + 1) (by omega); rw [D.pv] at h; exact h) (by have h := D.row.cell (i := ro + 4) (by omega); rw [D.ln] at h; exact h) (hb.frozen 0) (hb.frozen 1) (hb.frozen 2) (ha.frozen 0) (D.row.frozen (ro + 1)) (D.row.frozen (ro + 4)) nba nbm nbm (by simp [nam]) (by simp [nam]) (by simp) (by omega) (by omega)
  have hv : (rmW w bm ro b a 0 bm ro 2).cell? ⟨b, 3, none⟩ = some (.iface 3 (.int .i64 (kb : Int))) := by
    unfold rmW
    refine ((((((((hb.setOther (a := ⟨a, 0, none⟩) nba _).setOther (a := ⟨bm, ro + 1, none⟩) nbm _).set (0) _).set (1) _).set (2) _).setOther (a := ⟨bm, ro + 4, none⟩) nbm _)).cell (i := 3) (by omega)).trans ?_
    simp [elF]
  refine (remove51 bm ro b a 0 bm ro w 2 _ (hb.cell (i := 2) (by omega)) (fun q => (cell_drewN (rmW w bm ro b a 0 bm ro 2) q _).trans hv) hr).mono ?_
  rintro x w' ⟨rfl, q, rfl⟩
  have key : ∃ cm', Dl (rmW w bm ro b a 0 bm ro 2) bm ro N cm' ([(a, ka)] : List (Nat × Nat)) ∧ CmKeep ro cm cm' ∧ Fr (bm :: ([(a, ka), (b, kb)] : List (Nat × Nat)).map Prod.fst) w (rmW w bm ro b a 0 bm ro 2) := ?_
  · obtain ⟨cm', k1, k2, k3⟩ := key
    exact ⟨rfl, cm', dl_drewN k1 q, k2, k3.trans (Fr.drewN _ _ q)⟩
  clear hr hv
  unfold rmW
  refine ⟨_, ⟨((((((D.row.setOther (a := ⟨a, 0, none⟩) nma _).set (ro + 1) _).setOther (a := ⟨b, 0, none⟩) nmb _).setOther (a := ⟨b, 1, none⟩) nmb _).setOther (a := ⟨b, 2, none⟩) nmb _).set (ro + 4) _), hfit, ?_, ?_, ?_, ?_⟩, ?_, ?_⟩
  · have := D.nx; simp [hdP] at this ⊢; exact this
  · simp [ltP]
  · simp
  · exact (((((((ha.set (0) _).setOther (a := ⟨bm, ro + 1, none⟩) nam _).setOther (a := ⟨b, 0, none⟩) nab _).setOther (a := ⟨b, 1, none⟩) nab _).setOther (a := ⟨b, 2, none⟩) nab _).setOther (a := ⟨bm, ro + 4, none⟩) nam _)).congr (four (by simp [elF]) (by simp [elF]) (by simp [elF]) (by simp [elF]))
  · intro i h1 h2 h3; simp [h1, h2, h3]
  · exact (((((Fr.setCell w _ _ (by simp)).trans (Fr.setCell _ _ _ (by simp))).trans (Fr.setCell _ _ _ (by simp))).trans (Fr.setCell _ _ _ (by simp))).trans (Fr.setCell _ _ _ (by simp))).trans (Fr.setCell _ _ _ (by simp))
set_option maxHeartbeats 400000 in
theorem rmb_3 (a b c ka kb kc bm ro N : Nat) (cm : Nat → Value) (w : World) (D : Dl w bm ro N cm ([(a, ka), (b, kb), (c, kc)] : List (Nat × Nat))) (nab : a ≠ b) (nac : a ≠ c) (nam : a ≠ bm) (nba : b ≠ a) (nbc : b ≠ c) (nbm : b ≠ bm) (nca : c ≠ a) (ncb : c ≠ b) (ncm : c ≠ bm) (nma : bm ≠ a) (nmb : bm ≠ b) (nmc : bm ≠ c) :
    Calls Yba.prog 51 #[pn bm ro, pn c 0] w fun x w' => x = .returned (.iface 3 (.int .i64 (kc : Int))) ∧ ∃ cm', Dl w' bm ro N cm' ([(a, ka), (b, kb)] : List (Nat × Nat)) ∧ CmKeep ro cm cm' ∧ Fr (bm :: ([(a, ka), (b, kb), (c, kc)] : List (Nat × Nat)).map Prod.fst) w w' := by
  have hfit := D.fit
  have ha : El w bm ro (a, ka) (pn b 0) (pn bm ro) := D.ch.1
  have hb : El w bm ro (b, kb) (pn c 0) (pn a 0) := D.ch.2.1
  have hc : El w bm ro (c, kc) (pn bm ro) (pn b 0) := D.ch.2.2
  have hr := remove64 bm ro c b 0 bm ro w 3 _ _ _ (hc.cell (i := 0) (by omega)) (hc.cell (i := 1) (by omega)) (hc.cell (i := 2) (by omega)) (hb.cell (i := 0) (by omega)) (by have h := D.row.cell (i := ro + 1) (by omega); rw [D.pv] at h; exact h) (by have h := D.row.cell (i := ro + 4) (by omega); rw [D.ln] at h; exact h) (hc.frozen 0) (hc.frozen 1) (hc.frozen 2) (hb.frozen 0) (D.row.frozen (ro + 1)) (D.row.frozen (ro + 4)) ncb ncm ncm (by simp [nbm]) (by simp [nbm]) (by simp) (by omega) (by omega)
  have hv : (rmW w bm ro c b 0 bm ro 3).cell? ⟨c, 3, none⟩ = some (.iface 3 (.int .i64 (kc : Int))) := by
    unfold rmW
    refine ((((((((hc.setOther (a := ⟨b, 0, none⟩) ncb _).setOther (a := ⟨bm, ro + 1, none⟩) ncm _).set (0) _).set (1) _).set (2) _).setOther (a := ⟨bm, ro + 4, none⟩) ncm _)).cell (i := 3) (by omega)).trans ?_
    simp [elF]
  refine (remove51 bm ro c b 0 bm ro w 3 _ (hc.cell (i := 2) (by omega)) (fun q => (cell_drewN (rmW w bm ro c b 0 bm ro 3) q _).trans hv) hr).mono ?_
  rintro x w' ⟨rfl, q, rfl⟩
  have key : ∃ cm', Dl (rmW w bm ro c b 0 bm ro 3) bm ro N cm' ([(a, ka), (b, kb)] : List (Nat × Nat)) ∧ CmKeep ro cm cm' ∧ Fr (bm :: ([(a, ka), (b, kb), (c, kc)] : List (Nat × Nat)).map Prod.fst) w (rmW w bm ro c b 0 bm ro 3) := ?_
  · obtain ⟨cm', k1, k2, k3⟩ := key
    exact ⟨rfl, cm', dl_drewN k1 q, k2, k3.trans (Fr.drewN _ _ q)⟩
  clear hr hv
  unfold rmW
  refine ⟨_, ⟨((((((D.row.setOther (a := ⟨b, 0, none⟩) nmb _).set (ro + 1) _).setOther (a := ⟨c, 0, none⟩) nmc _).setOther (a := ⟨c, 1, none⟩) nmc _).setOther (a := ⟨c, 2, none⟩) nmc _).set (ro + 4) _), hfit, ?_, ?_, ?_, ?_⟩, ?_, ?_⟩
  · have := D.nx; simp [hdP] at this ⊢; exact this
  · simp [ltP]
  · simp
  · exact ⟨(((((((ha.setOther (a := ⟨b, 0, none⟩) nab _).setOther (a := ⟨bm, ro + 1, none⟩) nam _).setOther (a := ⟨c, 0, none⟩) nac _).setOther (a := ⟨c, 1, none⟩) nac _).setOther (a := ⟨c, 2, none⟩) nac _).setOther (a := ⟨bm, ro + 4, none⟩) nam _)).congr (four (by simp [elF]) (by simp [elF]) (by simp [elF]) (by simp [elF])), (((((((hb.set (0) _).setOther (a := ⟨bm, ro + 1, none⟩) nbm _).setOther (a := ⟨c, 0, none⟩) nbc _).setOther (a := ⟨c, 1, none⟩) nbc _).setOther (a := ⟨c, 2, none⟩) nbc _).setOther (a := ⟨bm, ro + 4, none⟩) nbm _)).congr (four (by simp [elF]) (by simp [elF]) (by simp [elF]) (by simp [elF]))⟩
  · intro i h1 h2 h3; simp [h1, h2, h3]
  · exact (((((Fr.setCell w _ _ (by simp)).trans (Fr.setCell _ _ _ (by simp))).trans (Fr.setCell _ _ _ (by simp))).trans (Fr.setCell _ _ _ (by simp))).trans (Fr.setCell _ _ _ (by simp))).trans (Fr.setCell _ _ _ (by simp))
set_option maxHeartbeats 400000 in
theorem rmb_4 (a b c d ka kb kc kd bm ro N : Nat) (cm : Nat → Value) (w : World) (D : Dl w bm ro N cm ([(a, ka), (b, kb), (c, kc), (d, kd)] : List (Nat × Nat))) (nab : a ≠ b) (nac : a ≠ c) (nad : a ≠ d) (nam : a ≠ bm) (nba : b ≠ a) (nbc : b ≠ c) (nbd : b ≠ d) (nbm : b ≠ bm) (nca : c ≠ a) (ncb : c ≠ b) (ncd : c ≠ d) (ncm : c ≠ bm) (nda : d ≠ a) (ndb : d ≠ b) (ndc : d ≠ c) (ndm : d ≠ bm) (nma : bm ≠ a) (nmb : bm ≠ b) (nmc : bm ≠ c) (nmd : bm ≠ d) :
    Calls Yba.prog 51 #[pn bm ro, pn d 0] w fun x w' => x = .returned (.iface 3 (.int .i64 (kd : Int))) ∧ ∃ cm', Dl w' bm ro N cm' ([(a, ka), (b, kb), (c, kc)] : List (Nat × Nat)) ∧ CmKeep ro cm cm' ∧ Fr (bm :: ([(a, ka), (b, kb), (c, kc), (d, kd)] : List (Nat × Nat)).map Prod.fst) w w' := by
  have hfit := D.fit
  have ha : El w bm ro (a, ka) (pn b 0) (pn bm ro) := D.ch.1
  have hb : El w bm ro (b, kb) (pn c 0) (pn a 0) := D.ch.2.1
  have hc : El w bm ro (c, kc) (pn d 0) (pn b 0) := D.ch.2.2.1
  have hd : El w bm ro (d, kd) (pn bm ro) (pn c 0) := D.ch.2.2.2
  have hr := remove64 bm ro d c 0 bm ro w 4 _ _ _ (hd.cell (i := 0) (by omega)) (hd.cell (i := 1) (by omega)) (hd.cell (i := 2) (by omega)) (hc.cell (i := 0) (by omega)) (by have h := D.row.cell (i := ro + 1) (by omega); rw [D.pv] at h; exact h) (by have h := D.row.cell (i := ro + 4) (by omega); rw [D.ln] at h; exact h) (hd.frozen 0) (hd.frozen 1) (hd.frozen 2) (hc.frozen 0) (D.row.frozen (ro + 1)) (D.row.frozen (ro + 4)) ndc ndm ndm (by simp [ncm]) (by simp [ncm]) (by simp) (by omega) (by omega)
  have hv : (rmW w bm ro d c 0 bm ro 4).cell? ⟨d, 3, none⟩ = some (.iface 3 (.int .i64 (kd : Int))) := by
    unfold rmW
    refine ((((((((hd.setOther (a := ⟨c, 0, none⟩) ndc _).setOther (a := ⟨bm, ro + 1, none⟩) ndm _).set (0) _).set (1) _).set (2) _).setOther (a := ⟨bm, ro + 4, none⟩) ndm _)).cell (i := 3) (by omega)).trans ?_
    simp [elF]
  refine (remove51 bm ro d c 0 bm ro w 4 _ (hd.cell (i := 2) (by omega)) (fun q => (cell_drewN (rmW w bm ro d c 0 bm ro 4) q _).trans hv) hr).mono ?_
  rintro x w' ⟨rfl, q, rfl⟩
  have key : ∃ cm', Dl (rmW w bm ro d c 0 bm ro 4) bm ro N cm' ([(a, ka), (b, kb), (c, kc)] : List (Nat × Nat)) ∧ CmKeep ro cm cm' ∧ Fr (bm :: ([(a, ka), (b, kb), (c, kc), (d, kd)] : List (Nat × Nat)).map Prod.fst) w (rmW w bm ro d c 0 bm ro 4) := ?_
  · obtain ⟨cm', k1, k2, k3⟩ := key
    exact ⟨rfl, cm', dl_drewN k1 q, k2, k3.trans (Fr.drewN _ _ q)⟩
  clear hr hv
  unfold rmW
  refine ⟨_, ⟨((((((D.row.setOther (a := ⟨c, 0, none⟩) nmc _).set (ro + 1) _).setOther (a := ⟨d, 0, none⟩) nmd _).setOther (a := ⟨d, 1, none⟩) nmd _).setOther (a := ⟨d, 2, none⟩) nmd _).set (ro + 4) _), hfit, ?_, ?_, ?_, ?_⟩, ?_, ?_⟩
  · have := D.nx; simp [hdP] at this ⊢; exact this
  · simp [ltP]
  · simp
  · exact ⟨(((((((ha.setOther (a := ⟨c, 0, none⟩) nac _).setOther (a := ⟨bm, ro + 1, none⟩) nam _).setOther (a := ⟨d, 0, none⟩) nad _).setOther (a := ⟨d, 1, none⟩) nad _).setOther (a := ⟨d, 2, none⟩) nad _).setOther (a := ⟨bm, ro + 4, none⟩) nam _)).congr (four (by simp [elF]) (by simp [elF]) (by simp [elF]) (by simp [elF])), (((((((hb.setOther (a := ⟨c, 0, none⟩) nbc _).setOther (a := ⟨bm, ro + 1, none⟩) nbm _).setOther (a := ⟨d, 0, none⟩) nbd _).setOther (a := ⟨d, 1, none⟩) nbd _).setOther (a := ⟨d, 2, none⟩) nbd _).setOther (a := ⟨bm, ro + 4, none⟩) nbm _)).congr (four (by simp [elF]) (by simp [elF]) (by simp [elF]) (by simp [elF])), (((((((hc.set (0) _).setOther (a := ⟨bm, ro + 1, none⟩) ncm _).setOther (a := ⟨d, 0, none⟩) ncd _).setOther (a := ⟨d, 1, none⟩) ncd _).setOther (a := ⟨d, 2, none⟩) ncd _).setOther (a := ⟨bm, ro + 4, none⟩) ncm _)).congr (four (by simp [elF]) (by simp [elF]) (by simp [elF]) (by simp [elF]))⟩
  · intro i h1 h2 h3; simp [h1, h2, h3]
  · exact (((((Fr.setCell w _ _ (by simp)).trans (Fr.setCell _ _ _ (by simp))).trans (Fr.setCell _ _ _ (by simp))).trans (Fr.setCell _ _ _ (by simp))).trans (Fr.setCell _ _ _ (by simp))).trans (Fr.setCell _ _ _ (by simp))
end Go.Proofs.Ybulkdpsg

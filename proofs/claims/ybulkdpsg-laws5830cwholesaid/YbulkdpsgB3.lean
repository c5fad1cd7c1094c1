/- S5830C: byArrival: what it hands back; the machine over the tasks in order of arrival and the machine over the rows. -/
import Derived.Test.YbulkdpsgB2
import Derived.Test.YbulkdpsgV2
import Derived.Test.YbulkdpsgP5
namespace Go.Proofs.Ybulkdpsg
open Go Go.RowKit Go.Sort Go.Proofs Go.Lib
set_option linter.unusedVariables false
set_option linter.unusedSimpArgs false

/-- What the law draws. -/
structure Inp where
  n : Nat
  nJ : Nat
  nW : Nat
  nS : Nat
  nC : Nat
  pd : Nat
  sticky : Bool
  job : Nat → Nat
  key : Nat → Nat
  dur : Nat → Nat
  arr : Nat → Nat
structure InpOk (X : Inp) : Prop where
  b1 : X.n ≤ 2048
  b2 : 0 < X.nW ∧ X.nW ≤ 4
  b3 : 0 < X.nS ∧ X.nS ≤ 3
  b4 : 0 < X.nJ ∧ X.nJ ≤ 4
  b5 : X.nC ≤ 3
  b6 : X.pd ≤ 19
  k : ∀ i, i < X.n → X.job i < X.nJ ∧ X.key i < 5 ∧ X.dur i ≤ 31 ∧ X.arr i ≤ 63
def Inp.ks (X : Inp) : List Nat := ksOf X.key X.n
def ownK (nW k : Nat) : Nat := (fnvTo (keyB k) (keyB k).size % (nW : Int)).toNat
def parB (X : Inp) : Par := ⟨X.n, X.nJ, X.nW, X.nS, 5, X.nC, X.pd, X.job, X.key, X.dur, X.arr, ownK X.nW, X.sticky, fun a b => X.arr a < X.arr b ∨ (X.arr a = X.arr b ∧ a < b)⟩
def parA (X : Inp) (ρ : Nat → Nat) : Par := ⟨X.n, X.nJ, X.nW, X.nS, X.ks.length, min X.nC X.ks.length, X.pd, fun t => X.job (ρ t), fun t => X.ks.idxOf (X.key (ρ t)), fun t => X.dur (ρ t), fun t => X.arr (ρ t), fun k => ownK X.nW (X.ks[k]!), X.sticky, fun a b => a < b⟩
/-- The order of arrival. -/
structure Ord (X : Inp) (ρ : Nat → Nat) : Prop where
  perm : ((List.range X.n).map ρ).Perm (List.range X.n)
  lt : ∀ t t', t < t' → t' < X.n → X.arr (ρ t) < X.arr (ρ t') ∨ (X.arr (ρ t) = X.arr (ρ t') ∧ ρ t < ρ t')
theorem Ord.ltn {X : Inp} {ρ : Nat → Nat} (h : Ord X ρ) {t : Nat} (ht : t < X.n) : ρ t < X.n := by
  have := h.perm.mem_iff.1 (List.mem_map.2 ⟨t, List.mem_range.2 ht, rfl⟩)
  exact List.mem_range.1 this
theorem key_mem {X : Inp} {i : Nat} (hi : i < X.n) : X.key i ∈ X.ks := (ksOf_mem X.key (X.key i) X.n).2 ⟨i, hi, rfl⟩
theorem idx_get {l : List Nat} {k : Nat} (h : k ∈ l) : l.idxOf k < l.length ∧ l[l.idxOf k]! = k := by
  have h1 : l.idxOf k < l.length := List.idxOf_lt_length_of_mem h
  refine ⟨h1, ?_⟩
  rw [getElem!_pos l _ h1]
  exact List.getElem_idxOf h1
theorem ks5 {X : Inp} (hX : InpOk X) {k : Nat} (hk : k < X.ks.length) : X.ks[k]! < 5 := by
  have hm : X.ks[k]! ∈ X.ks := by rw [getElem!_pos X.ks k hk]; exact List.getElem_mem hk
  obtain ⟨p, h1, h2⟩ := (ksOf_mem X.key _ X.n).1 hm
  rw [← h2]; exact (hX.k p h1).2.1
theorem ownK_lt {nW k : Nat} (h : 0 < nW) : ownK nW k < nW := by
  unfold ownK
  have h1 := Int.emod_nonneg (fnvTo (keyB k) (keyB k).size) (show (nW : Int) ≠ 0 by omega)
  have h2 := Int.emod_lt_of_pos (fnvTo (keyB k) (keyB k).size) (show (0 : Int) < (nW : Int) by omega)
  omega
theorem pb_B {X : Inp} (hX : InpOk X) : PB (parB X) := ⟨hX.b1, hX.b2, hX.b3, hX.b4, hX.b5, hX.b6, Nat.le_refl _, fun i hi => ⟨(hX.k i hi).1, (hX.k i hi).2.1, (hX.k i hi).2.2.1, (hX.k i hi).2.2.2, ownK_lt hX.b2.1⟩⟩
theorem ks_len {X : Inp} (hX : InpOk X) : X.ks.length ≤ 5 := ksOf_len X.key X.n X.n (fun p hp => (hX.k p hp).2.1) (Nat.le_refl _)
theorem pb_A {X : Inp} (hX : InpOk X) {ρ : Nat → Nat} (h : Ord X ρ) : PB (parA X ρ) := ⟨hX.b1, hX.b2, hX.b3, hX.b4, by show min _ _ ≤ 3; have := hX.b5; omega, hX.b6, ks_len hX, fun i hi => by
  have hr := h.ltn hi
  exact ⟨(hX.k _ hr).1, (idx_get (key_mem hr)).1, (hX.k _ hr).2.2.1, (hX.k _ hr).2.2.2, ownK_lt hX.b2.1⟩⟩
theorem iso {X : Inp} (hX : InpOk X) {ρ : Nat → Nat} (h : Ord X ρ) : Iso (parA X ρ) (parB X) ρ (fun k => X.ks[k]!) where
  n := rfl
  nJ := rfl
  nW := rfl
  nS := rfl
  pd := rfl
  sticky := rfl
  perm := h.perm
  job := fun t ht => rfl
  dur := fun t ht => rfl
  arr := fun t ht => rfl
  key := fun t ht => (idx_get (key_mem (h.ltn ht))).2.symm
  own := fun k hk => rfl
  inj := fun k k' hk hk' e => by
    have hk2 : k < X.ks.length := hk
    have hk2' : k' < X.ks.length := hk'
    have e' : X.ks[k]! = X.ks[k']! := e
    rw [getElem!_pos X.ks k hk2, getElem!_pos X.ks k' hk2'] at e'
    have hpw := List.pairwise_iff_getElem.1 (ksOf_nodup X.key X.n)
    rcases Nat.lt_trichotomy k k' with z | z | z
    · exact absurd e' (hpw k k' hk2 hk2' z)
    · exact z
    · exact absurd e'.symm (hpw k' k hk2' hk2 z)
  sz := rfl
  lt := fun t t' ht ht' => by
    show (X.arr (ρ t) < X.arr (ρ t') ∨ (X.arr (ρ t) = X.arr (ρ t') ∧ ρ t < ρ t')) ↔ t < t'
    rcases Nat.lt_trichotomy t t' with z | z | z
    · exact ⟨fun _ => z, fun _ => h.lt t t' z ht'⟩
    · subst z; omega
    · have := h.lt t' t z ht; omega
  tot := fun t t' ht ht' hne => by show t < t' ∨ t' < t; omega
/-- What byArrival hands back. -/
structure BaP (X : Inp) (w w' : World) (bt : Nat) (d : Array Tk) (ρ : Nat → Nat) (vk : Value) : Prop where
  ord : Ord X ρ
  ta : TA (parA X ρ) d ρ
  holds : HoldsK encT 5 w' bt 0 d
  lt : bt < w'.heap.size
  nb : w.heap.size ≤ bt
  fr : Fr [] w w'
  kv : w'.ownsRow w.heap.size 9 1 vk X.ks.length (X.ks.map fun k => .string (keyB k))
theorem holds_of_row {w : World} {bt n : Nat} {f : Nat → Tk} (h : w.rowIs bt 105 (n * 5) (rowT f n)) : HoldsK encT 5 w bt 0 ((Array.range n).map f) := by
  have hs : ((Array.range n).map f).size = n := by simp
  intro j hj
  have hj' : j < n * 5 := by rw [size_flatK, hs] at hj; exact hj
  rw [get_flatK encT 5 _ _ (by rw [hs]; exact hj'), Nat.zero_add]
  have hget : ((Array.range n).map f)[j / 5]! = f (j / 5) := by rw [getElem!_pos _ _ (by rw [hs]; omega)]; simp
  rw [hget]
  refine ⟨?_, h.frozen j⟩
  have := h.cell hj'
  rw [this]
  unfold rowT
  rw [if_pos (by omega)]
  rfl
theorem ext_all {a : Array Tk} {n : Nat} (h : a.size = n) : a.extract 0 n = a := by subst h; exact Array.extract_size
theorem ord_of {X : Inp} {d : Array Tk} (hp : PermIn 0 X.n ((Array.range X.n).map (fT X.job X.key X.dur X.arr X.n)) d) (hs : SortedIn lexT 0 X.n d) : Ord X (fun t => (d[t]!.row).toNat) ∧ TA (parA X (fun t => (d[t]!.row).toNat)) d (fun t => (d[t]!.row).toNat) := by
  have hsz : d.size = X.n := by rw [hp.1]; simp
  have hsz0 : ((Array.range X.n).map (fT X.job X.key X.dur X.arr X.n)).size = X.n := by simp
  have hperm : d.toList.Perm ((List.range X.n).map (fT X.job X.key X.dur X.arr X.n)) := by
    have h3 := hp.2.2
    rw [ext_all hsz, ext_all hsz0] at h3
    have : ((Array.range X.n).map (fT X.job X.key X.dur X.arr X.n)).toList = (List.range X.n).map (fT X.job X.key X.dur X.arr X.n) := by simp
    rw [this] at h3; exact h3
  have hget : ∀ t, t < X.n → ∃ i, i < X.n ∧ d[t]! = fT X.job X.key X.dur X.arr X.n i := fun t ht => by
    have hm : d[t]! ∈ d.toList := by rw [getElem!_pos d t (by omega)]; exact Array.getElem_mem_toList (by omega)
    obtain ⟨i, h1, h2⟩ := List.mem_map.1 (hperm.mem_iff.1 hm)
    exact ⟨i, List.mem_range.1 h1, h2.symm⟩
  have hrow : ∀ t, t < X.n → d[t]! = fT X.job X.key X.dur X.arr X.n (d[t]!.row).toNat ∧ (d[t]!.row).toNat < X.n ∧ d[t]!.row = ((d[t]!.row).toNat : Int) := fun t ht => by
    obtain ⟨i, h1, h2⟩ := hget t ht
    have : (d[t]!.row).toNat = i := by rw [h2]; simp [fT]
    rw [this]
    exact ⟨h2, h1, by rw [h2]; rfl⟩
  have hpm : ((List.range X.n).map (fun t => (d[t]!.row).toNat)).Perm (List.range X.n) := by
    have h1 := hperm.map (fun x : Tk => x.row.toNat)
    rw [List.map_map] at h1
    have e1 : (List.range X.n).map ((fun x : Tk => x.row.toNat) ∘ fT X.job X.key X.dur X.arr X.n) = List.range X.n := by
      conv => rhs; rw [← List.map_id (List.range X.n)]
      refine List.map_congr_left fun i _ => ?_
      simp [fT]
    have e2 : d.toList.map (fun x : Tk => x.row.toNat) = (List.range X.n).map (fun t => (d[t]!.row).toNat) := by
      refine List.ext_getElem (by simp [hsz]) fun i h1 h2 => ?_
      have hi : i < d.size := by simpa using h1
      simp only [List.getElem_map, List.getElem_range, Array.getElem_toList]
      rw [getElem!_pos d i hi]
    rw [e1, e2] at h1
    exact h1
  refine ⟨⟨hpm, fun t t' htt ht' => ?_⟩, ⟨hsz, fun t ht => ⟨(hrow t ht).2.2, (hrow t ht).2.1⟩, fun t ht => ?_, fun t ht => ?_, fun t ht => ?_, fun t ht => ?_⟩⟩
  · have hs1 := hs t t' (Nat.zero_le _) htt ht'
    have r1 := hrow t (by omega)
    have r2 := hrow t' ht'
    have hne : (d[t]!.row).toNat ≠ (d[t']!.row).toNat := fun e => by
      have := inj_of_nodup_map (hpm.nodup_iff.2 List.nodup_range) (List.mem_range.2 (show t < X.n by omega)) (List.mem_range.2 ht') e
      omega
    unfold lexT at hs1
    have hs2 := of_decide_eq_false hs1
    have a1 : d[t]!.arr = (X.arr (d[t]!.row).toNat : Int) := congrArg Tk.arr r1.1
    have a2 : d[t']!.arr = (X.arr (d[t']!.row).toNat : Int) := congrArg Tk.arr r2.1
    rw [a1, a2, r1.2.2, r2.2.2] at hs2
    show X.arr (d[t]!.row).toNat < X.arr (d[t']!.row).toNat ∨ _
    simp only [Int.toNat_natCast] at hs2
    omega
  · exact congrArg Tk.job (hrow t ht).1
  · exact congrArg Tk.key (hrow t ht).1
  · exact congrArg Tk.dur (hrow t ht).1
  · exact congrArg Tk.arr (hrow t ht).1
theorem byArrival21 {X : Inp} (hX : InpOk X) (b5 bl : Nat) (vj : Value) (w : World) (hl : w.rowIs bl 57 2 (fun c => if c = 0 then vj else .slice (some ⟨b5, 0, none⟩) X.n X.n)) (h5 : w.rowIs b5 54 (X.n * 4) (tkF X.job X.key X.dur X.arr)) :
    Calls Yba.prog 21 #[pn bl 0] w fun e w' => ∃ bt d ρ vk, e = .returned (.tuple #[.slice (some ⟨bt, 0, none⟩) X.n X.n, vk]) ∧ BaP X w w' bt d ρ vk := by
  refine byArrival21a X.n b5 bl vj X.job X.key X.dur X.arr w hX.b1 (fun i hi => (hX.k i hi).2.1) hl h5 _ fun wr bt bm vk B => ?_
  have hH := holds_of_row B.rt
  refine (sort32 bt X.n X.n _ wr (by simp) hH B.rt.lt hX.b1 ?_).mono ?_
  · intro p q _ h1 _ h2
    have hp : ((Array.range X.n).map (fT X.job X.key X.dur X.arr X.n))[p]! = fT X.job X.key X.dur X.arr X.n p := by rw [getElem!_pos _ _ (by simp; omega)]; simp
    have hq : ((Array.range X.n).map (fT X.job X.key X.dur X.arr X.n))[q]! = fT X.job X.key X.dur X.arr X.n q := by rw [getElem!_pos _ _ (by simp; omega)]; simp
    rw [hp, hq]
    show (p : Int) < (q : Int)
    omega
  · rintro e w' ⟨h1, d, h2, h3, h4⟩
    obtain ⟨o1, o2⟩ := ord_of h3 h4
    have hg := h2.grown
    have f : Fr [bt] wr w' := ⟨hg.os, hg.tape, hg.output, hg.size, fun k hk hn => hg.block k hk (fun e => hn (by simp at e; simp [e]))⟩
    have n1 := B.n1
    refine ⟨h1, bt, d, _, vk, rfl, ⟨o1, o2, h2.holds, h2.lt B.rt.lt, B.n1.1, ⟨f.os.trans B.fr.os, f.tape.trans B.fr.tape, f.output.trans B.fr.output, Nat.le_trans B.fr.size f.size, fun k hk _ => ?_⟩, own_frW B.kv f (fun b hb => by simp; exact (B.n3 b hb).2.1)⟩⟩
    have := B.fr.size
    rw [f.block k (by omega) (by simp; omega), B.fr.block k hk (by simp)]
end Go.Proofs.Ybulkdpsg

import Derived.Test.YbulkdptiDigits
import Derived.SizedLaws
import Derived.Lib.AppendStr
import Derived.Laws.BytesArg
import Derived.Laws.OwnMore
namespace Go.Proofs.Ybulkdpti
open Go.RowKit

theorem Yba.info5 : (Yba.prog.info? 5).map (fun i => (i.zero, i.size, i.bytes)) = some (some (.int .u8 0), 1, 1) := by kernel_rfl

/-- The digit that is made of a number. -/
def mkD (z : Int) : Int := 48 + z % 10
/-- The first k digits. -/
def Ds (zs : List Int) (k : Nat) : List Int := (zs.take k).map mkD
theorem Ds_succ (zs : List Int) (k : Nat) (h : k < zs.length) : Ds zs (k + 1) = Ds zs k ++ [mkD (zs.getD k 0)] := by
  unfold Ds
  rw [List.take_succ_eq_append_getElem h, List.map_append]
  simp [List.getD, h]
theorem Ds_length (zs : List Int) (k : Nat) (h : k ≤ zs.length) : (Ds zs k).length = k := by
  simp [Ds]; omega

/-- A list of numbers, each a digit; one that is none; whatever: the answer. -/
theorem dl_built (xs : List Int) (c : Int) (ys : List Int) (hx : ∀ n ∈ xs, 48 ≤ n ∧ n ≤ 57) (hc : 0 ≤ c ∧ c ≤ 255 ∧ ¬ (48 ≤ c ∧ c ≤ 57)) :
    dl (((xs ++ [c]) ++ ys).map fun n => UInt8.ofNat n.toNat) = xs.length := by
  induction xs with
  | nil =>
    have : isD (UInt8.ofNat c.toNat) = false := isD_no _ (by rw [UInt8.toNat_ofNat']; omega)
    simp [dl, this]
  | cons x xs ih =>
    have h1 := hx x (by simp)
    have : isD (UInt8.ofNat x.toNat) = true := (isD_iff _).2 (by rw [UInt8.toNat_ofNat']; omega)
    have h2 := ih (fun n hn => hx n (by simp [hn]))
    simp only [List.cons_append, List.map_cons, dl, this, if_true, h2, List.length_cons]

/-- The k-th of the ten bytes that are no digits. -/
def ndc (k : Nat) : Nat := ([97, 98, 99, 45, 46, 47, 32, 0, 255, 58] : List Nat).getD k 0
theorem tab2 (k : Nat) (h : k < 10) (h' : k < (⟨#[97, 98, 99, 45, 46, 47, 32, 0, 255, 58, 57]⟩ : ByteArray).size) : ((⟨#[97, 98, 99, 45, 46, 47, 32, 0, 255, 58, 57]⟩ : ByteArray)[k]'h').toNat = ndc k := by
  obtain rfl | rfl | rfl | rfl | rfl | rfl | rfl | rfl | rfl | rfl : k = 0 ∨ k = 1 ∨ k = 2 ∨ k = 3 ∨ k = 4 ∨ k = 5 ∨ k = 6 ∨ k = 7 ∨ k = 8 ∨ k = 9 := by omega
  all_goals rfl
theorem tab3 (k : Nat) (h : k < 10) : ndc k ≤ 255 ∧ ¬ (48 ≤ ndc k ∧ ndc k ≤ 57) := by
  obtain rfl | rfl | rfl | rfl | rfl | rfl | rfl | rfl | rfl | rfl : k = 0 ∨ k = 1 ∨ k = 2 ∨ k = 3 ∨ k = 4 ∨ k = 5 ∨ k = 6 ∨ k = 7 ∨ k = 8 ∨ k = 9 := by omega
  all_goals decide

/-- A string's bytes as numbers. -/
def byteNums (s : ByteArray) : List Int := s.data.toList.map fun b => (b.toNat : Int)
theorem strCells_nums (s : ByteArray) : Lib.strCells s = (byteNums s).map (Value.int .u8) := by
  simp [Lib.strCells, byteNums]
/-- What is owned, made a string. -/
theorem own_bytes {w : World} {base : Nat} {v : Value} {n : Nat} {xs : List Int} (h : w.ownsRow base 5 1 v n (xs.map (Value.int .u8))) (hn : 0 < n) :
    ∃ g cp, v = .slice (some ⟨g, 0, none⟩) n cp ∧ (convert 35 9 (.slice (some ⟨g, 0, none⟩) n cp)).run Yba.prog w = .ok (.string (strOfNums xs)) w := by
  have h0 := h
  obtain ⟨hl, hcase⟩ := h
  rcases hcase with ⟨_, h0⟩ | ⟨g, cp, cur, rfl, _⟩
  · omega
  · refine ⟨g, cp, rfl, run_convert_bytes_arg w 35 5 Yba.underlying35 Yba.underlying5 g 0 n cp xs (by simpa using hl) (fun i hi => ?_) 9 Yba.underlying9⟩
    have hxl : i < xs.length := by simp at hl; omega
    rw [Nat.zero_add, h0.cellAt i (by omega)]
    simp [List.getD, hxl]

/-- The string that is built. -/
def builtStr (zs : List Int) (k m : Nat) (s : ByteArray) : ByteArray := strOfNums (Ds zs k ++ [(ndc m : Int)] ++ byteNums s)
theorem builtStr_size (zs : List Int) (k m : Nat) (s : ByteArray) (hk : k ≤ zs.length) : (builtStr zs k m s).size = k + 1 + s.size := by
  have hbl : (byteNums s).length = s.size := by simp [byteNums]
  unfold builtStr
  rw [strOfNums_size]
  simp only [List.length_append, Ds_length zs k hk, hbl, List.length_singleton]
theorem builtStr_dl (zs : List Int) (k m : Nat) (s : ByteArray) (hk : k ≤ zs.length) (hm : m < 10) : dl (builtStr zs k m s).data.toList = k := by
  have hmt := tab3 m hm
  unfold builtStr
  rw [strOfNums_data, dl_built _ _ _ ?_ (by omega), Ds_length zs k hk]
  intro n hn
  simp only [Ds] at hn
  obtain ⟨z, _, rfl⟩ := List.mem_map.1 hn
  unfold mkD
  omega
theorem own_built {w : World} {base : Nat} {v : Value} (zs : List Int) (k m : Nat) (s : ByteArray) (h : w.ownsRow base 5 1 v (k + 1 + s.size) ((Ds zs k).map (Value.int .u8) ++ [.int .u8 (ndc m)] ++ Lib.strCells s)) :
    ∃ g cp, v = .slice (some ⟨g, 0, none⟩) (k + 1 + s.size) cp ∧ (convert 35 9 (.slice (some ⟨g, 0, none⟩) (k + 1 + s.size) cp)).run Yba.prog w = .ok (.string (builtStr zs k m s)) w := by
  have hL : (Ds zs k).map (Value.int .u8) ++ [.int .u8 (ndc m)] ++ Lib.strCells s = (Ds zs k ++ [(ndc m : Int)] ++ byteNums s).map (Value.int .u8) := by rw [strCells_nums]; simp
  rw [hL] at h
  exact own_bytes h (by omega)

/-- The slice that came in, as the walk wants it. -/
def RowOf (w : World) (ad : Option Addr) (len : Nat) (zs : List Int) : Prop :=
  zs.length = len ∧ ∀ k, k < len → ∃ b off, ad = some ⟨b, off, none⟩ ∧ b < w.heap.size ∧ w.cell? ⟨b, off + k, none⟩ = some (.int .u8 (zs.getD k 0)) ∧ 0 ≤ zs.getD k 0 ∧ zs.getD k 0 ≤ 255

set_option maxHeartbeats 1000000 in
theorem built_big (ad : Option Addr) (len cap : Nat) (a1 : Int) (s : ByteArray) (w : World) (hl : len ≤ 140737488351232) (hs : s.size ≤ 140737488351232) (hbig : 1048576 < len + s.size) :
    Calls Yba.prog 5 #[.slice ad len cap, .int .u8 a1, .string s] w fun e w' => e = .returned (.bool true) ∧ Below w.heap.size w w' := by
  have h1 : (1048576 : Int) < (len : Int) + (s.size : Int) := by omega
  go_enter Yba.func5, Yba.ntmps5
  go_wp2
  go_ret
  exact ⟨rfl, Below.refl _ _⟩

set_option maxHeartbeats 1000000 in
theorem built_any (ad : Option Addr) (len cap : Nat) (zs : List Int) (a1 : Int) (s : ByteArray) (w : World) (hr : RowOf w ad len zs) (ha : 0 ≤ a1 ∧ a1 ≤ 255) (hsm : len + s.size ≤ 1048576) :
    Calls Yba.prog 5 #[.slice ad len cap, .int .u8 a1, .string s] w fun e w' => e = .returned (.bool true) ∧ Below w.heap.size w w' := by
  have h1 : ¬ ((1048576 : Int) < (len : Int) + (s.size : Int)) := by omega
  obtain ⟨i0, hi, hz0, hz1, hz2⟩ := info_parts Yba.info5
  obtain ⟨m, hm, hm10⟩ : ∃ m : Nat, a1 % 10 = (m : Int) ∧ m < 10 := ⟨(a1 % 10).toNat, by omega, by omega⟩
  obtain ⟨hzl, hcell⟩ := hr
  go_enter Yba.func5, Yba.ntmps5
  go_wp2_with (at_make; refine wpList_make_own _ rfl _ _ 35 rfl w.heap.size 5 i0 (.int .u8 0) 1 Yba.underlying35 hi hz0 hz1 _ _ _ (len + 1 + s.size) rfl rfl (by omega) ?b2 ?b3 (Nat.le_refl _) ?_)
  case b2 => omega
  case b3 => unfold maxLen; omega
  intro w0 hown0 hgrow0
  go_wp2
  go_loopw [7, 8] (fun v i wr => ∃ k : Nat, k ≤ len ∧ i = .int .i64 k ∧ wr.ownsRow w.heap.size 5 1 v k ((Ds zs k).map (Value.int .u8)) ∧ Below w.heap.size w wr) (fun _ i _ => len - (intOf i).toNat)
  case atStart => exact ⟨0, Nat.zero_le _, rfl, hown0, (Below.refl _ _).grown hgrow0 (Nat.le_refl _) (fun k h => by cases h)⟩
  case round =>
    obtain ⟨k, hk, rfl, hown, hnx⟩ := hrel
    by_cases hlt : k < len
    · obtain ⟨b, off, rfl, hb, hc, hz⟩ := hcell k hlt
      have hcx : wr.cell? ⟨b, off + k, none⟩ = some (.int .u8 (zs.getD k 0)) := (hnx.cell (by exact hb)).trans hc
      obtain ⟨z, hze⟩ : ∃ z, z = zs.getD k 0 := ⟨_, rfl⟩
      rw [← hze] at hcx hz
      have HZ : Hid (z = zs.getD k 0) := hze
      clear hze hc
      obtain ⟨hz0', hz1'⟩ := hz
      go_wp2_with (at_builtin; refine wpList_append_own _ rfl (.tmp 29) (.tmp 38) 35 rfl w.heap.size 5 i0 (.int .u8 0) 1 1 Yba.underlying35 hi hz0 hz1 hz2 rfl (by decide) _ _ _ rfl (hown.alloc _) ⟨wr.heap.size, 0, none⟩ 1 1 [.int .u8 (48 + z % 10)] rfl rfl (by intro t u ht; match t, ht with | 0, ht => simp at ht; subst ht; simp [Addr.add]) (by intro u hu; simp at hu; subst hu; rfl) (by unfold maxLen; omega) (by omega) (by have := hnx.size; simp; omega) ?_; intro v' w1 hown1 hgrow1 _)
      have hD : (Ds zs k).map (Value.int .u8) ++ [.int .u8 (48 + z % 10)] = (Ds zs (k + 1)).map (Value.int .u8) := by
        rw [Ds_succ zs k (by omega), ← HZ.out]
        simp [mkD]
      rw [hD] at hown1
      go_roundw
      case rel => exact ⟨k + 1, by omega, by go_num, hown1, (hnx.alloc hnx.size _).grown hgrow1 (by simp; have := hnx.size; omega) (fun g hg => (hown.lt g hg).1)⟩
      case measure => simp [intOf]; omega
    · obtain rfl : k = len := by omega
      have hmi := tab2 m hm10 (by simp [ByteArray.size]; omega)
      have hmt := tab3 m hm10
      have hlen : (builtStr zs k m s).size ≤ maxLen := by rw [builtStr_size zs k m s (by omega)]; unfold maxLen; omega
      have HDL : Hid (dl (builtStr zs k m s).data.toList = k) := builtStr_dl zs k m s (by omega) hm10
      go_wp2_with (first
        | (at_builtin; refine wpList_append_own _ rfl (.tmp 44) (.tmp 46) 35 rfl w.heap.size 5 i0 (.int .u8 0) 1 1 Yba.underlying35 hi hz0 hz1 hz2 rfl (by decide) _ _ _ rfl (hown.alloc _) ⟨wr.heap.size, 0, none⟩ 1 1 [.int .u8 (ndc m)] rfl rfl (by intro t u ht; match t, ht with | 0, ht => simp at ht; subst ht; simp [Addr.add]) (by intro u hu; simp at hu; subst hu; rfl) (by unfold maxLen; omega) (by omega) (by have := hnx.size; simp; omega) ?_; intro v1 w1 hown1 hgrow1 _)
        | (at_builtin; refine Lib.wpList_append_own_string _ rfl (.tmp 48) (.tmp 49) 35 9 rfl w.heap.size 5 i0 Yba.underlying35 Yba.underlying9 hi hz0 hz1 hz2 _ _ _ rfl hown1 s rfl (by unfold maxLen; omega) (by omega) (by have := hnx.size; have := hgrow1.size; simp at this; omega) ?_; intro v2 w2 hown2 hgrow2 _; obtain ⟨g, cp, rfl, hcv⟩ := own_built zs k m s hown2)
        | (go_at_call 7; refine (digits_any _ hlen _).mono ?_; rintro e w' ⟨rfl, rfl⟩; rw [HDL.out]))
      go_ret
      refine ⟨rfl, ?_⟩
      exact ((hnx.alloc hnx.size _).grown hgrow1 (by simp; have := hnx.size; omega) (fun g hg => (hown.lt g hg).1)).grown hgrow2 (by have := hnx.size; have := hgrow1.size; simp at this; omega) (fun g hg => (hown1.lt g hg).1)
end Go.Proofs.Ybulkdpti

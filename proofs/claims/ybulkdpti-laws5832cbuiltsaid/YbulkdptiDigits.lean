import Derived.Test.YbulkdptiRows
import Derived.WalkKit
import Derived.ProofKit
namespace Go.Proofs.Ybulkdpti
open Go.RowKit

/-- An ASCII digit. -/
def isD (c : UInt8) : Bool := 48 ≤ c && c ≤ 57
/-- How many digits open the list. -/
def dl : List UInt8 → Nat
  | [] => 0
  | c :: l => if isD c then dl l + 1 else 0
theorem dl_le : ∀ l : List UInt8, dl l ≤ l.length
  | [] => Nat.le_refl _
  | c :: l => by unfold dl; split; · simp; exact dl_le l
                 · omega
theorem dl_lt : ∀ (l : List UInt8) (k : Nat), k < dl l → ∃ h : k < l.length, isD l[k] = true
  | [], k, h => by simp [dl] at h
  | c :: l, 0, h => by
    refine ⟨by simp, ?_⟩
    unfold dl at h; split at h
    · simpa using ‹isD c = true›
    · omega
  | c :: l, k + 1, h => by
    unfold dl at h; split at h
    · obtain ⟨h1, h2⟩ := dl_lt l k (by omega)
      exact ⟨by simpa using h1, by simpa using h2⟩
    · omega
theorem dl_at : ∀ (l : List UInt8) (h : dl l < l.length), isD (l[dl l]'h) = false
  | [], h => by simp at h
  | c :: l, h => by
    by_cases hc : isD c = true
    · have e : dl (c :: l) = dl l + 1 := by simp [dl, hc]
      have h' : dl l < l.length := by rw [e] at h; simpa using h
      simp only [e, List.getElem_cons_succ]
      exact dl_at l h'
    · have e : dl (c :: l) = 0 := by simp [dl, hc]
      simp only [e, List.getElem_cons_zero]
      simpa using hc
/-- The first place that is no digit is the answer. -/
theorem dl_eq (l : List UInt8) (k : Nat) (hk : k ≤ l.length) (h : ∀ j (hj : j < k), isD (l[j]'(by omega)) = true) (he : ∀ hl : k < l.length, isD l[k] = false) : dl l = k := by
  have h1 : ¬ dl l < k := fun hlt => by
    have := h _ hlt
    rw [dl_at l (by omega)] at this
    cases this
  have h2 : ¬ k < dl l := fun hlt => by
    obtain ⟨hl, hd⟩ := dl_lt l k hlt
    rw [he hl] at hd
    cases hd
  omega
theorem isD_iff (c : UInt8) : isD c = true ↔ (48 : Int) ≤ (c.toNat : Int) ∧ (c.toNat : Int) ≤ 57 := by
  simp [isD, UInt8.le_iff_toNat_le]; omega
theorem isD_no (c : UInt8) (h : ¬ ((48 : Int) ≤ (c.toNat : Int) ∧ (c.toNat : Int) ≤ 57)) : isD c = false := by
  cases e : isD c
  · rfl
  · exact absurd ((isD_iff c).1 e) h

theorem ret_int {k : IntKind} {a b : Int} (h : a = b) : Ending.returned (.int k a) = .returned (.int k b) := by rw [h]

set_option maxHeartbeats 400000 in
/-- tiaowen.digitsLen. -/
theorem digits_any (s : ByteArray) (hs : s.size ≤ maxLen) (w : World) :
    Calls Yba.prog 7 #[.string s] w fun e w' => e = .returned (.int .i64 (dl s.data.toList)) ∧ w = w' := by
  unfold maxLen at hs
  go_enter Yba.func7, Yba.ntmps7
  go_wp2
  go_loop [3] (fun i => ∃ k : Nat, ∃ hk : k ≤ s.size, i = .int .i64 k ∧ ∀ j (hj : j < k), isD (s.data.toList[j]'(by simp; omega)) = true) (fun i => s.size - (intOf i).toNat)
  case atStart => exact ⟨0, Nat.zero_le _, rfl, fun j hj => by omega⟩
  case round =>
    obtain ⟨k, hk, rfl, hd⟩ := hrel
    by_cases hlt : k < s.size
    · by_cases h1 : (48 : Int) ≤ (s[k].toNat : Int)
      · by_cases h2 : (s[k].toNat : Int) ≤ 57
        · go_wp2
          go_round
          case rel => exact ⟨k + 1, by omega, by go_num, fun j hj => by
            by_cases e : j < k
            · exact hd j e
            · obtain rfl : j = k := by omega
              exact (isD_iff _).2 ⟨h1, h2⟩⟩
          case measure => simp [intOf]; omega
        · have hn := dl_eq s.data.toList k (by simpa using hk) hd (fun _ => isD_no _ (fun h => h2 h.2))
          have hn' : Hid (dl s.data.toList = k) := hn
          clear hn
          go_wp2
          go_ret
          exact ⟨ret_int (by rw [hn'.out]), rfl⟩
      · have hn := dl_eq s.data.toList k (by simpa using hk) hd (fun _ => isD_no _ (fun h => h1 h.1))
        have hn' : Hid (dl s.data.toList = k) := hn
        clear hn
        go_wp2
        go_ret
        exact ⟨ret_int (by rw [hn'.out]), rfl⟩
    · go_wp2
      go_ret
      exact ⟨ret_int (by rw [dl_eq s.data.toList k (by simpa using hk) hd (fun h => by simp at h; omega)]), rfl⟩

/-- The digits by the table. -/
def isDI (b : Int) : Bool := decide (48 ≤ b ∧ b ≤ 57)
theorem tab (k : Nat) (h : k < 10) : ((⟨#[48, 49, 50, 51, 52, 53, 54, 55, 56, 57]⟩ : ByteArray)[k]'h).toNat = 48 + k := by
  obtain rfl | rfl | rfl | rfl | rfl | rfl | rfl | rfl | rfl | rfl : k = 0 ∨ k = 1 ∨ k = 2 ∨ k = 3 ∨ k = 4 ∨ k = 5 ∨ k = 6 ∨ k = 7 ∨ k = 8 ∨ k = 9 := by omega
  all_goals rfl
theorem ret_bool {a b : Bool} (h : a = b) : Ending.returned (.bool a) = .returned (.bool b) := by rw [h]
set_option maxHeartbeats 400000 in
theorem isdigit_any (b : Int) (w : World) :
    Calls Yba.prog 8 #[.int .u8 b] w fun e w' => e = .returned (.bool (isDI b)) ∧ w = w' := by
  go_enter Yba.func8, Yba.ntmps8
  go_wp2
  go_loop [3] (fun i => ∃ k : Nat, k ≤ 10 ∧ i = .int .i64 k ∧ ¬ (48 ≤ b ∧ b < 48 + k)) (fun i => 10 - (intOf i).toNat)
  case atStart => exact ⟨0, by omega, rfl, by omega⟩
  case round =>
    obtain ⟨k, hk, rfl, hd⟩ := hrel
    by_cases hlt : k < 10
    · by_cases he : b = 48 + k
      · have hb : ((((⟨#[48, 49, 50, 51, 52, 53, 54, 55, 56, 57]⟩ : ByteArray)[k]'hlt).toNat : Int) == b) = true := by rw [tab k hlt]; simp; omega
        go_wp2
        go_ret
        exact ⟨ret_bool (by simp [isDI]; omega), rfl⟩
      · have hb : ((((⟨#[48, 49, 50, 51, 52, 53, 54, 55, 56, 57]⟩ : ByteArray)[k]'hlt).toNat : Int) == b) = false := by rw [tab k hlt]; simp; omega
        go_wp2
        go_round
        case rel => exact ⟨k + 1, by omega, by go_num, by omega⟩
        case measure => simp [intOf]; omega
    · go_wp2
      go_ret
      exact ⟨ret_bool (by simp [isDI]; omega), rfl⟩
end Go.Proofs.Ybulkdpti

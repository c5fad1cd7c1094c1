/- S5830C: the law's small helpers. -/
import Derived.Test.YbulkdpsgC1
import Derived.BigQuiet
import Derived.Deep.DeepCutAuto
import Derived.Laws.Bits64b
import Derived.Laws.BitsAllLaws
namespace Go.Proofs.Ybulkdpsg
open Go Go.RowKit Go.Proofs Go.Lib
set_option linter.unusedVariables false

/-- The five keys, the four jobs. -/
def keyB : Nat → ByteArray
  | 0 => ⟨#[97]⟩
  | 1 => ⟨#[98, 98]⟩
  | 2 => ⟨#[107, 101, 121]⟩
  | 3 => ⟨#[120, 55]⟩
  | _ => ⟨#[100, 97, 116, 97]⟩
def jobB : Nat → ByteArray
  | 0 => ⟨#[106, 48]⟩
  | 1 => ⟨#[106, 49]⟩
  | 2 => ⟨#[106, 50]⟩
  | _ => ⟨#[106, 51]⟩
theorem key9 (k : Nat) (hk : k < 5) (w : World) : Calls Yba.prog 9 #[.int .i64 (k : Int)] w fun e w' => e = .returned (.string (keyB k)) ∧ w = w' := by
  rcases (show k = 0 ∨ k = 1 ∨ k = 2 ∨ k = 3 ∨ k = 4 by omega) with rfl | rfl | rfl | rfl | rfl
  all_goals
    go_enter Yba.func9, Yba.ntmps9
    go_wp2
    go_ret
    exact ⟨rfl, rfl⟩
theorem job8 (k : Nat) (hk : k < 4) (w : World) : Calls Yba.prog 8 #[.int .i64 (k : Int)] w fun e w' => e = .returned (.string (jobB k)) ∧ w = w' := by
  rcases (show k = 0 ∨ k = 1 ∨ k = 2 ∨ k = 3 by omega) with rfl | rfl | rfl | rfl
  all_goals
    go_enter Yba.func8, Yba.ntmps8
    go_wp2
    go_ret
    exact ⟨rfl, rfl⟩

/-- A slice of integers. -/
def Ints (w : World) (ad : Option Addr) (l : List Int) : Prop := ∀ i, i < l.length → ∃ b off, ad = some ⟨b, off, none⟩ ∧ b < w.heap.size ∧ w.cell? ⟨b, off + i, none⟩ = some (.int .i64 l[i]!)

theorem has15 (ad : Option Addr) (cap : Nat) (l : List Int) (k : Int) (w : World) (H : Ints w ad l) (hl : l.length ≤ 1000000) :
    Calls Yba.prog 15 #[.slice ad l.length cap, .int .i64 k] w fun e w' => e = .returned (.bool (decide (k ∈ l))) ∧ w = w' := by
  have HH : Hid (Ints w ad l) := H
  clear H
  go_enter Yba.func15, Yba.ntmps15
  go_wp2
  go_loopw [9] (fun i wr => ∃ j : Nat, i = .int .i64 (j : Int) ∧ j ≤ l.length ∧ w = wr ∧ Hid (∀ q, q < j → l[q]! ≠ k)) (fun i _ => l.length - (intOf i).toNat)
  case atStart => exact ⟨0, rfl, Nat.zero_le _, rfl, fun q hq => by omega⟩
  case round =>
    obtain ⟨j, rfl, hj, rfl, HN⟩ := hrel
    by_cases hlt : j < l.length
    · obtain ⟨b, off, rfl, hb, hc⟩ := HH.out j hlt
      have HE : Hid (l[j]! = l[j]!) := rfl
      generalize hx : l[j]! = x at hc
      have HX : Hid (l[j]! = x) := hx
      clear hx HE
      by_cases he : x = k
      · subst he
        go_wp2
        go_ret
        refine ⟨?_, rfl⟩
        have : x ∈ l := by rw [← HX.out, List.getElem!_eq_getElem?_getD, List.getElem?_eq_getElem hlt]; simp
        simp [this]
      · have hb1 : (x == k) = false := beq_false_of_ne he
        go_wp2
        go_roundw
        case rel =>
          refine ⟨j + 1, by go_num, by omega, by first | rfl | trivial, fun q hq => ?_⟩
          by_cases hqj : q = j
          · subst hqj; rw [HX.out]; exact he
          · exact HN.out q (by omega)
        case measure => simp [intOf]; omega
    · go_wp2
      go_ret
      refine ⟨?_, rfl⟩
      have : k ∉ l := by
        intro hk
        obtain ⟨q, hq, hqe⟩ := List.getElem_of_mem hk
        refine HN.out q (by omega) ?_
        rw [List.getElem!_eq_getElem?_getD, List.getElem?_eq_getElem hq]; simpa using hqe
      simp [this]

def befI (xa xb : Int) (a b : Nat) : Bool := decide (xa < xb ∨ (xa = xb ∧ a < b))
theorem before14 (ad : Option Addr) (cap : Nat) (l : List Int) (a b : Nat) (ha : a < l.length) (hb : b < l.length) (w : World) (H : Ints w ad l) (hl : l.length ≤ 1000000) :
    Calls Yba.prog 14 #[.slice ad l.length cap, .int .i64 (a : Int), .int .i64 (b : Int)] w fun e w' => e = .returned (.bool (befI l[a]! l[b]! a b)) ∧ ∃ n, w' = w.drewN n := by
  obtain ⟨ba, off, rfl, hba, hca⟩ := H a ha
  obtain ⟨bb, off', e, hbb, hcb⟩ := H b hb
  simp only [Option.some.injEq, Addr.mk.injEq, and_true] at e
  obtain ⟨rfl, rfl⟩ := e
  generalize l[a]! = x at *
  generalize l[b]! = y at *
  clear H
  have za : (a : Int) < (l.length : Int) := by omega
  have zb : (b : Int) < (l.length : Int) := by omega
  by_cases h1 : x < y
  · have hr : befI x y a b = true := decide_eq_true (Or.inl h1)
    rw [hr]
    have hd : decide (x < y) = true := decide_eq_true h1
    go_enter Yba.func14, Yba.ntmps14
    go_wp2_with fail
    go_quiet (fail)
    go_wp2
    go_ret
    exact ⟨rfl, _, rfl⟩
  · have hd : decide (x < y) = false := decide_eq_false h1
    by_cases h2 : x = y
    · subst h2
      by_cases h3 : a < b
      · have hr : befI x x a b = true := decide_eq_true (Or.inr ⟨rfl, h3⟩)
        rw [hr]
        have hd3 : decide ((a : Int) < (b : Int)) = true := decide_eq_true (by omega)
        go_enter Yba.func14, Yba.ntmps14
        go_wp2_with fail
        go_quiet (fail)
        go_wp2
        go_ret
        exact ⟨rfl, _, rfl⟩
      · have hr : befI x x a b = false := decide_eq_false (by omega)
        rw [hr]
        have hd3 : decide ((a : Int) < (b : Int)) = false := decide_eq_false (by omega)
        go_enter Yba.func14, Yba.ntmps14
        go_wp2_with fail
        go_quiet (fail)
        go_wp2
        go_ret
        exact ⟨rfl, _, rfl⟩
    · have hr : befI x y a b = false := decide_eq_false (by omega)
      rw [hr]
      have hd2 : (x == y) = false := beq_false_of_ne h2
      go_enter Yba.func14, Yba.ntmps14
      go_wp2_with fail
      go_quiet (fail)
      go_wp2
      go_ret
      exact ⟨rfl, _, rfl⟩
end Go.Proofs.Ybulkdpsg

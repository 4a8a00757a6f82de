import Derived.Test.Qxb6602759aReads
import Derived.Deep.QuietTactic
import Derived.BigQuiet
namespace Go.Proofs.Qxb6602759a
open Go.ChangeShapes Go.WideShapes Go.ChangeAt Go.RowKit

theorem zzDec (a : Option Addr) (n cap : Nat) (c : Int) (w : World) (h : n ≤ 1048576) :
    Calls Try.prog 12 #[.slice a n cap, .int .u8 c] w fun e w' => e = .returned (.bool true) ∧ w = w' := by
  go_enter Try.func12, Try.ntmps12
  go_wp2
  go_ret
  exact ⟨rfl, rfl⟩

theorem dec_big (a0 : Option Addr) (len0 cap0 : Nat) (a1 : Int) (w : World) (h : ¬ len0 ≤ 1048576) :
    Calls Try.prog 5 #[.slice a0 len0 cap0, .int .u8 a1] w fun e w' => e = .returned (.bool true) ∧ Below w.heap.size w w' := by
  go_enter Try.func5, Try.ntmps5
  go_wp2
  go_ret
  exact ⟨rfl, Below.refl _ _⟩

/-- The letter behind the backslash reads back to the byte. -/
theorem shortval (c : Int) (h : c = 34 ∨ c = 92 ∨ c = 8 ∨ c = 12 ∨ c = 10 ∨ c = 13 ∨ c = 9) :
    ∃ z : Int, (escv c).getD 1 0 = z ∧ ∀ w : World, Calls Try.prog 14 #[.int .u8 z] w fun e w' => e = .returned (.int .i64 c) ∧ w = w' := by
  rcases h with rfl | rfl | rfl | rfl | rfl | rfl | rfl
  · refine ⟨34, rfl, fun w => ?_⟩
    go_enter Try.func14, Try.ntmps14
    go_wp2
    go_ret
    exact ⟨rfl, rfl⟩
  · refine ⟨92, rfl, fun w => ?_⟩
    go_enter Try.func14, Try.ntmps14
    go_wp2
    go_ret
    exact ⟨rfl, rfl⟩
  · refine ⟨98, rfl, fun w => ?_⟩
    go_enter Try.func14, Try.ntmps14
    go_wp2
    go_ret
    exact ⟨rfl, rfl⟩
  · refine ⟨102, rfl, fun w => ?_⟩
    go_enter Try.func14, Try.ntmps14
    go_wp2
    go_ret
    exact ⟨rfl, rfl⟩
  · refine ⟨110, rfl, fun w => ?_⟩
    go_enter Try.func14, Try.ntmps14
    go_wp2
    go_ret
    exact ⟨rfl, rfl⟩
  · refine ⟨114, rfl, fun w => ?_⟩
    go_enter Try.func14, Try.ntmps14
    go_wp2
    go_ret
    exact ⟨rfl, rfl⟩
  · refine ⟨116, rfl, fun w => ?_⟩
    go_enter Try.func14, Try.ntmps14
    go_wp2
    go_ret
    exact ⟨rfl, rfl⟩
theorem short_len (c : Int) (h : c = 34 ∨ c = 92 ∨ c = 8 ∨ c = 12 ∨ c = 10 ∨ c = 13 ∨ c = 9) : (escv c).length = 2 ∧ (escv c).getD 0 0 = 92 := by
  rcases h with rfl | rfl | rfl | rfl | rfl | rfl | rfl <;> exact ⟨rfl, rfl⟩

/-- lowerHexDigit, where it reads a digit of hexd's. -/
theorem low_any (d : Int) (h0 : 0 ≤ d) (h1 : d < 16) (w : World) :
    Calls Try.prog 15 #[.int .u8 (hexd d)] w fun e w' => e = .returned (.int .i64 d) ∧ w = w' := by
  generalize hz : hexd d = z
  have hz' : (d < 10 ∧ z = 48 + d) ∨ (10 ≤ d ∧ z = 87 + d) := by rw [← hz]; unfold hexd; split <;> omega
  clear hz
  rcases hz' with ⟨h2, h3⟩ | ⟨h2, h3⟩
  · have a1 : 48 ≤ z := by omega
    have a2 : z ≤ 57 := by omega
    have H : Hid _ := h3
    clear h3
    go_enter Try.func15, Try.ntmps15
    go_wp2
    go_ret
    exact ⟨ret_int (by have := H.out; omega), rfl⟩
  · have a1 : 97 ≤ z := by omega
    have a2 : z ≤ 102 := by omega
    have H : Hid _ := h3
    clear h3
    go_enter Try.func15, Try.ntmps15
    go_wp2
    go_ret
    exact ⟨ret_int (by have := H.out; omega), rfl⟩

theorem vat_step' (c : Int) (h0 : 0 ≤ c) (h1 : c ≤ 255) (j : Nat) (h2 : 2 ≤ j) (h3 : j < 6) : ∃ d : Int, [92, 117, 48, 48, hexd (c / 16), hexd (c % 16)].getD j 0 = hexd d ∧ 0 ≤ d ∧ d < 16 ∧ vat c (j + 1) = vat c j * 16 + d ∧ 0 ≤ vat c j ∧ vat c j ≤ 255 := by
  obtain rfl | rfl | rfl | rfl : j = 2 ∨ j = 3 ∨ j = 4 ∨ j = 5 := by omega
  · exact ⟨0, rfl, by simp [vat]⟩
  · exact ⟨0, rfl, by simp [vat]⟩
  · exact ⟨c / 16, rfl, by omega, by omega, by simp [vat], by simp [vat], by simp [vat]⟩
  · exact ⟨c % 16, rfl, by omega, by omega, by simp [vat]; omega, by simp [vat]; omega, by simp [vat]; omega⟩
end Go.Proofs.Qxb6602759a

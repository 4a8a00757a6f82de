import Derived.Test.Qxb6602759aHex
namespace Go.Proofs.Qxb6602759a
open Go.ChangeShapes Go.WideShapes Go.ChangeAt Go.RowKit

theorem lowerAt_fin : ∀ k : Fin 16, ((({ data := #[48, 49, 50, 51, 52, 53, 54, 55, 56, 57, 97, 98, 99, 100, 101, 102] } : ByteArray)[k.val]'(k.isLt)).toNat : Int) = if k.val < 10 then 48 + (k.val : Int) else 87 + (k.val : Int) := by
  decide +kernel
theorem upperAt_fin : ∀ k : Fin 16, ((({ data := #[48, 49, 50, 51, 52, 53, 54, 55, 56, 57, 65, 66, 67, 68, 69, 70] } : ByteArray)[k.val]'(k.isLt)).toNat : Int) = if k.val < 10 then 48 + (k.val : Int) else 55 + (k.val : Int) := by
  decide +kernel

/-- What 'want' holds behind k rounds. -/
def wantv (a : Int) (k : Nat) : Int := if hexv a < k then hexv a else -1
theorem wantv_zero (a : Int) (h : -1 ≤ hexv a) : wantv a 0 = -1 := by unfold wantv; split <;> omega
theorem wantv_all (a : Int) (h : hexv a ≤ 15) : wantv a 16 = hexv a := by unfold wantv; split <;> omega
theorem wantv_hit (a : Int) (k : Nat) (h : hexv a = k) : wantv a (k + 1) = k := by unfold wantv; split <;> omega
theorem wantv_miss (a : Int) (k : Nat) (h : ¬ hexv a = k) : wantv a (k + 1) = wantv a k := by unfold wantv; split <;> split <;> omega

set_option linter.unusedVariables false in
theorem digitSearch_walk (a0 : Int) (w0 : (Lit.int .u8 a0).wf = true) (w : World) :
    Calls Try.prog 3 #[.int .u8 a0] w fun e w' => e = .returned (.bool true) ∧ Grown w w' := by
  obtain ⟨h0, h1⟩ := bounds_u8 w0
  have hv := hexv_bd a0 h0 h1
  clear w0
  go_enter Try.func3, Try.ntmps3
  go_wp2
  go_loop [5, 6] (fun n i => ∃ k : Nat, k ≤ 16 ∧ i = .int .i64 k ∧ n = .int .i32 (wantv a0 k)) (fun _ i => 16 - (intOf i).toNat)
  case atStart => exact ⟨0, Nat.zero_le _, rfl, by rw [wantv_zero _ hv.1]⟩
  case round =>
    obtain ⟨k, hk, rfl, rfl⟩ := hrel
    by_cases hlt : k < 16
    · have hx0 := lowerAt_fin ⟨k, hlt⟩
      have hy0 := upperAt_fin ⟨k, hlt⟩
      dsimp only at hx0 hy0
      generalize hx : ((({ data := #[48, 49, 50, 51, 52, 53, 54, 55, 56, 57, 97, 98, 99, 100, 101, 102] } : ByteArray)[k]'(hlt)).toNat : Int) = x at hx0
      generalize hy : ((({ data := #[48, 49, 50, 51, 52, 53, 54, 55, 56, 57, 65, 66, 67, 68, 69, 70] } : ByteArray)[k]'(hlt)).toNat : Int) = y at hy0
      have he : hexv a0 = k ↔ (a0 = x ∨ a0 = y) := by rw [hx0, hy0]; unfold hexv; omega
      clear hx0 hy0
      by_cases c1 : (a0 == x) = true
      · have HW : Hid (wantv a0 (k + 1) = k) := wantv_hit a0 k (he.2 (.inl (by simpa using c1)))
        clear he
        go_wp2
        all_goals
          go_round
          case rel => exact ⟨k + 1, by omega, by go_num, by rw [HW.out]⟩
          case measure => simp [intOf]; omega
      · have c1' : (a0 == x) = false := by simpa using c1
        by_cases c2 : (a0 == y) = true
        · have HW : Hid (wantv a0 (k + 1) = k) := wantv_hit a0 k (he.2 (.inr (by simpa using c2)))
          clear he c1
          go_wp2
          all_goals
            go_round
            case rel => exact ⟨k + 1, by omega, by go_num, by rw [HW.out]⟩
            case measure => simp [intOf]; omega
        · have c2' : (a0 == y) = false := by simpa using c2
          have HW : Hid (wantv a0 (k + 1) = wantv a0 k) := wantv_miss a0 k (fun h => by rcases he.1 h with h | h <;> simp [h] at c1 c2)
          clear c2 c1 he
          go_wp2
          all_goals
            go_round
            case rel => exact ⟨k + 1, by omega, by go_num, by rw [HW.out]⟩
            case measure => simp [intOf]; omega
    · obtain rfl : k = 16 := by omega
      rw [wantv_all _ hv.2]
      go_wp2_with (go_at_call 9; refine (zzhex_any a0 h0 h1 _).mono ?_; rintro e w' ⟨rfl, rfl⟩)
      go_ret
      exact ⟨by simp, Grown.refl _⟩
end Go.Proofs.Qxb6602759a

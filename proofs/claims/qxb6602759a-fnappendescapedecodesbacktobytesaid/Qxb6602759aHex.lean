import Derived.Test.Qxb6602759aRows
import Derived.WalkKit
import Derived.ProofKit
import Derived.OpenShut
import Derived.ShutString
namespace Go.Proofs.Qxb6602759a
open Go.ChangeShapes Go.WideShapes Go.ChangeAt Go.RowKit

/-- hexValue, plainly. -/
def hexv (c : Int) : Int := if 48 ≤ c ∧ c ≤ 57 then c - 48 else if 65 ≤ c ∧ c ≤ 70 then c - 55 else if 97 ≤ c ∧ c ≤ 102 then c - 87 else -1

theorem or32_nat : ∀ n : Fin 256, (bits .or .u8 (n.val : Int) 32 = n.val + 32 ∧ (n.val / 32) % 2 = 0) ∨ (bits .or .u8 (n.val : Int) 32 = n.val ∧ (n.val / 32) % 2 = 1) := by
  decide +kernel
theorem or32 (c : Int) (h0 : 0 ≤ c) (h1 : c ≤ 255) : (bits .or .u8 c 32 = c + 32 ∧ (c / 32) % 2 = 0) ∨ (bits .or .u8 c 32 = c ∧ (c / 32) % 2 = 1) := by
  have h := or32_nat ⟨c.toNat, by omega⟩
  have e : ((c.toNat : Nat) : Int) = c := by omega
  simp only [e] at h
  omega

theorem ret_int {k : IntKind} {a b : Int} (h : a = b) : Ending.returned (.int k a) = .returned (.int k b) := by rw [h]

theorem hexv_bd (c : Int) (h0 : 0 ≤ c) (h1 : c ≤ 255) : -1 ≤ hexv c ∧ hexv c ≤ 15 := by unfold hexv; omega

theorem hex_any (c : Int) (h0 : 0 ≤ c) (h1 : c ≤ 255) (w : World) :
    Calls Try.prog 23 #[.int .u8 c] w fun e w' => e = .returned (.int .i32 (hexv c)) ∧ w' = w := by
  have ho := or32 c h0 h1
  generalize hx : bits .or .u8 c 32 = x at ho
  have h2 : 0 ≤ x := by omega
  have h3 : x ≤ 255 := by omega
  have HO : Hid _ := ho
  clear ho
  go_enter Try.func23, Try.ntmps23
  go_wp2
  all_goals
    go_ret
    have ho := HO.out
    refine ⟨ret_int ?_, rfl⟩
    unfold hexv
    clear HO hx
    omega

theorem zzhex_any (c : Int) (h0 : 0 ≤ c) (h1 : c ≤ 255) (w : World) :
    Calls Try.prog 9 #[.int .u8 c] w fun e w' => e = .returned (.int .i32 (hexv c)) ∧ w' = w := by
  go_enter Try.func9, Try.ntmps9
  go_wp2_with (go_at_call 23; refine (hex_any c h0 h1 _).mono ?_; rintro e w' ⟨rfl, rfl⟩)
  go_ret
  exact ⟨rfl, rfl⟩
end Go.Proofs.Qxb6602759a

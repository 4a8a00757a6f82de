import Derived.Test.Qxb6603129aProj
import Derived.Laws.IdiomStrings
namespace Go.Proofs.Qxb6603129a
open Go.ChangeShapes Go.WideShapes Go.ChangeAt Go.RowKit

/-! ### Plainly: the last k decimal digits of u -/
def digB (x : Nat) : UInt8 := UInt8.ofNat (48 + x % 10)
def digs : Nat → Nat → List UInt8
  | 0, _ => []
  | k + 1, u => digB (u / 10 ^ k) :: digs k u
theorem digB_nat (x : Nat) : (digB x).toNat = 48 + x % 10 := by
  unfold digB
  rw [UInt8.toNat_ofNat']
  omega
theorem digs_len (k u : Nat) : (digs k u).length = k := by
  induction k with
  | zero => rfl
  | succ k ih => simp [digs, ih]
theorem digs_all (k u : Nat) : allDig (digs k u) = true := by
  induction k with
  | zero => rfl
  | succ k ih =>
    unfold allDig at *
    rw [digs, List.all_cons, ih, Bool.and_true, isDig_iff, digB_nat]
    omega
theorem digs_val (k u : Nat) : val (digs k u) = u % 10 ^ k := by
  induction k with
  | zero => simp [digs, val, valF, Nat.mod_one]
  | succ k ih =>
    rw [digs, val_cons, digs_len, ih, digB_nat]
    have e1 : 48 + u / 10 ^ k % 10 - 48 = u / 10 ^ k % 10 := by omega
    rw [e1, Nat.pow_succ, Nat.mod_mul, Nat.mul_comm]
    omega

/-- The array behind k rounds. -/
def bufAt (k u : Nat) : List Value := List.replicate (20 - k) (.int .u8 0) ++ (digs k u).map (fun b => .int .u8 (b.toNat : Int))
theorem bufAt_len (k u : Nat) (h : k ≤ 20) : (bufAt k u).length = 20 := by simp [bufAt, digs_len]; omega
theorem bufAt_succ (k u : Nat) (h : k < 20) : (bufAt k u).set (19 - k) (.int .u8 ((48 + u / 10 ^ k % 10 : Nat) : Int)) = bufAt (k + 1) u := by
  unfold bufAt
  rw [digs, List.map_cons, digB_nat]
  have e : List.replicate (20 - k) (Value.int .u8 0) = List.replicate (19 - k) (Value.int .u8 0) ++ [Value.int .u8 0] := by
    rw [show 20 - k = (19 - k) + 1 by omega, List.replicate_succ']
  have e2 : 20 - (k + 1) = 19 - k := by omega
  rw [e, e2, List.append_assoc, List.set_append_right _ _ (by simp)]
  simp
end Go.Proofs.Qxb6603129a

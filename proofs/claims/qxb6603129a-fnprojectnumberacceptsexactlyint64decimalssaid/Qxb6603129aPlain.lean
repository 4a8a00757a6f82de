import Derived.Test.Qxb6603129aRows
import Derived.WalkKit
import Derived.ProofKit
import Derived.OpenShut
import Derived.ShutString
import Derived.ChangeOld
import Derived.Below
import Derived.WalkSpells
import Derived.WalkSmall
import Derived.WalkLawsBesides
import Derived.Lib.OthersKept
import Derived.Lib.Strings
namespace Go.Proofs.Qxb6603129a
open Go.ChangeShapes Go.WideShapes Go.ChangeAt Go.RowKit

theorem hid {p : Prop} (h : p) : Hid p := h
theorem ret_int {k : IntKind} {a b : Int} (h : a = b) : Ending.returned (.int k a) = .returned (.int k b) := by rw [h]
theorem ret_bool {a b : Bool} (h : a = b) : Ending.returned (.bool a) = .returned (.bool b) := by rw [h]

/-! ### The plain law: digits, their value, and the order of texts -/
def isDig (b : UInt8) : Bool := decide (48 ≤ b.toNat) && decide (b.toNat ≤ 57)
def allDig (l : List UInt8) : Bool := l.all isDig
def valF (v : Nat) (l : List UInt8) : Nat := l.foldl (fun v b => v * 10 + (b.toNat - 48)) v
def val (l : List UInt8) : Nat := valF 0 l
def maxv : Nat := 9223372036854775807
def maxL : List UInt8 := [57, 50, 50, 51, 51, 55, 50, 48, 51, 54, 56, 53, 52, 55, 55, 53, 56, 48, 55]

theorem valF_eq (v : Nat) (l : List UInt8) : valF v l = v * 10 ^ l.length + val l := by
  induction l generalizing v with
  | nil => simp [valF, val]
  | cons b l ih =>
    have e1 : valF v (b :: l) = valF (v * 10 + (b.toNat - 48)) l := rfl
    have e2 : val (b :: l) = valF (0 * 10 + (b.toNat - 48)) l := rfl
    rw [e1, e2, ih, ih (0 * 10 + (b.toNat - 48))]
    simp only [List.length_cons, Nat.pow_succ, Nat.zero_mul, Nat.zero_add, Nat.add_mul]
    rw [Nat.mul_assoc, Nat.mul_comm 10, Nat.add_assoc]
theorem val_cons (b : UInt8) (l : List UInt8) : val (b :: l) = (b.toNat - 48) * 10 ^ l.length + val l := by
  have e2 : val (b :: l) = valF (0 * 10 + (b.toNat - 48)) l := rfl
  rw [e2, valF_eq]
  simp
theorem val_snoc (l : List UInt8) (b : UInt8) : val (l ++ [b]) = val l * 10 + (b.toNat - 48) := by
  simp [val, valF, List.foldl_append]
theorem isDig_iff (b : UInt8) : isDig b = true ↔ 48 ≤ b.toNat ∧ b.toNat ≤ 57 := by simp [isDig]
theorem val_lt (l : List UInt8) (h : allDig l = true) : val l < 10 ^ l.length := by
  induction l with
  | nil => simp [val, valF]
  | cons b l ih =>
    simp only [allDig, List.all_cons, Bool.and_eq_true] at h
    have h1 := (isDig_iff b).1 h.1
    have h2 := ih h.2
    rw [val_cons, List.length_cons, Nat.pow_succ]
    generalize 10 ^ l.length = P at *
    have : (b.toNat - 48) * P ≤ 9 * P := Nat.mul_le_mul_right P (by omega)
    omega
theorem leq_iff : ∀ (a b : List UInt8), a.length = b.length → allDig a = true → allDig b = true → ((Op.bytesLess a b || a == b) = true ↔ val a ≤ val b)
  | [], [], _, _, _ => by simp [Op.bytesLess, val, valF]
  | x :: a, y :: b, hl, ha, hb => by
    simp only [allDig, List.all_cons, Bool.and_eq_true] at ha hb
    have hx := (isDig_iff x).1 ha.1
    have hy := (isDig_iff y).1 hb.1
    have hl' : a.length = b.length := by simpa using hl
    have ih := leq_iff a b hl' ha.2 hb.2
    have va := val_lt a ha.2
    have vb := val_lt b hb.2
    rw [val_cons, val_cons, hl']
    rw [hl'] at va
    generalize 10 ^ b.length = P at *
    have e : (Op.bytesLess (x :: a) (y :: b) || (x :: a) == (y :: b)) = (decide (x < y) || (x == y && (Op.bytesLess a b || a == b))) := by
      have e2 : ((x :: a) == (y :: b)) = (x == y && a == b) := rfl
      rw [e2]
      simp only [Op.bytesLess]
      cases decide (x < y) <;> cases (x == y) <;> simp
    rw [e]
    by_cases h1 : x = y
    · subst h1
      have hlt : decide (x < x) = false := by simp
      rw [hlt, beq_self_eq_true, Bool.false_or, Bool.true_and, ih]
      omega
    · have hbe : (x == y) = false := by simpa using h1
      rw [hbe, Bool.false_and, Bool.or_false, decide_eq_true_eq, UInt8.lt_iff_toNat_lt]
      have hne : x.toNat ≠ y.toNat := fun e => h1 (UInt8.toNat_inj.1 e)
      constructor
      · intro h
        have : (x.toNat - 48 + 1) * P ≤ (y.toNat - 48) * P := Nat.mul_le_mul_right P (by omega)
        rw [Nat.add_mul, Nat.one_mul] at this
        omega
      · intro h
        by_cases h2 : x.toNat < y.toNat
        · exact h2
        · have : (y.toNat - 48 + 1) * P ≤ (x.toNat - 48) * P := Nat.mul_le_mul_right P (by omega)
          rw [Nat.add_mul, Nat.one_mul] at this
          omega

theorem maxL_val : val maxL = maxv := by decide +kernel
theorem maxL_dig : allDig maxL = true := by decide +kernel
/-- The law: 19 digits are no greater a text than the greatest int64's digits just where their value is no greater. -/
theorem law19 (l : List UInt8) (h : l.length = 19) (hd : allDig l = true) : (Op.bytesLess l maxL || l == maxL) = decide (val l ≤ maxv) := by
  have := leq_iff l maxL (by rw [h]; rfl) hd maxL_dig
  rw [maxL_val] at this
  rw [Bool.eq_iff_iff, this, decide_eq_true_eq]
theorem law18 (l : List UInt8) (h : l.length < 19) (hd : allDig l = true) : val l ≤ maxv := by
  have h1 := val_lt l hd
  have h2 : 10 ^ l.length ≤ 10 ^ 18 := Nat.pow_le_pow_right (by omega) (by omega)
  have h3 : 10 ^ 18 ≤ maxv := by decide +kernel
  omega

/-- What both functions answer. -/
def okB (l : List UInt8) : Bool := decide (1 ≤ l.length) && decide (l.length ≤ 19) && allDig l && decide (val l ≤ maxv)
end Go.Proofs.Qxb6603129a

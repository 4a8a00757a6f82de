import Derived.Test.Qxb6602759aEsc
import Derived.Deep.QuietTactic
import Derived.BigQuiet
import Derived.WalkSmall
namespace Go.Proofs.Qxb6602759a
open Go.ChangeShapes Go.WideShapes Go.ChangeAt Go.RowKit

/-- Two slices that hold the same bytes: sameBytes says so, and only reads. -/
theorem same_any (a b : Option Addr) (n ca cb : Nat) (zs : List Int) (w : World) (ha : Rd w a n zs) (hb : Rd w b n zs) (hn : n ≤ 1048577) :
    Calls Try.prog 21 #[.slice a n ca, .slice b n cb] w fun e w' => e = .returned (.bool true) ∧ ∃ q, w' = w.drewN q := by
  have HA : Hid (Rd w a n zs) := ha
  have HB : Hid (Rd w b n zs) := hb
  clear ha hb
  go_enter Try.func21, Try.ntmps21
  go_wp2
  go_loopw [5] (fun i wr => ∃ k : Nat, k ≤ n ∧ i = .int .i64 k ∧ ∃ q, wr = w.drewN q) (fun i _ => n - (intOf i).toNat)
  case atStart => exact ⟨0, Nat.zero_le _, rfl, 0, rfl⟩
  case round =>
    obtain ⟨k, hk, rfl, q, rfl⟩ := hrel
    by_cases hlt : k < n
    · cases a with
      | none => have := HA.out.2.1 rfl; omega
      | some x =>
        cases b with
        | none => have := HB.out.2.1 rfl; omega
        | some y =>
          have d0 := HA.out.2.2 x rfl k hlt
          have d1 := HB.out.2.2 y rfl k hlt
          generalize zs.getD k 0 = z at d0 d1
          have hki : (k : Int) < (n : Int) := by omega
          go_wp2
          go_quiet (fail)
          go_wp2
          all_goals
            go_roundw
            case rel => exact ⟨k + 1, by omega, by go_num, _, rfl⟩
            case measure => simp [intOf]; omega
    · obtain rfl : k = n := by omega
      go_wp2
      go_ret
      exact ⟨rfl, q, rfl⟩
end Go.Proofs.Qxb6602759a

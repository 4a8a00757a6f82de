import Derived.Test.Qxb6602759aTail
import Derived.Test.Qxb6602759aHex
namespace Go.Proofs.Qxb6602759a
open Go.ChangeShapes Go.WideShapes Go.ChangeAt Go.RowKit

theorem short_yes (c : Int) (h : c = 34 ∨ c = 92 ∨ c = 8 ∨ c = 12 ∨ c = 10 ∨ c = 13 ∨ c = 9) (w : World) :
    Calls Try.prog 10 #[.int .u8 c] w fun e w' => e = .returned (.bool true) ∧ w = w' := by
  rcases h with rfl | rfl | rfl | rfl | rfl | rfl | rfl
  all_goals
    go_enter Try.func10, Try.ntmps10
    go_wp2
    go_ret
    exact ⟨rfl, rfl⟩

theorem short_no (c : Int) (c1 : (c == 34) = false) (c2 : (c == 92) = false) (c3 : (c == 8) = false) (c4 : (c == 12) = false) (c5 : (c == 10) = false) (c6 : (c == 13) = false) (c7 : (c == 9) = false) (w : World) :
    Calls Try.prog 10 #[.int .u8 c] w fun e w' => e = .returned (.bool false) ∧ w = w' := by
  go_enter Try.func10, Try.ntmps10
  go_wp2
  go_ret
  exact ⟨rfl, rfl⟩

theorem zzhex_same (c : Int) (h0 : 0 ≤ c) (h1 : c ≤ 255) (w : World) :
    Calls Try.prog 9 #[.int .u8 c] w fun e w' => e = .returned (.int .i32 (hexv c)) ∧ w = w' :=
  (zzhex_any c h0 h1 w).mono fun _ _ h => ⟨h.1, h.2.symm⟩

/-- What the first j - 2 of the four digits come to. -/
def vat (c : Int) (j : Nat) : Int := if j ≤ 4 then 0 else if j = 5 then c / 16 else c
theorem escv_u (c : Int) (h : ¬ (c = 34 ∨ c = 92 ∨ c = 8 ∨ c = 12 ∨ c = 10 ∨ c = 13 ∨ c = 9)) : escv c = [92, 117, 48, 48, hexd (c / 16), hexd (c % 16)] := by
  unfold escv
  rw [if_neg (by omega), if_neg (by omega), if_neg (by omega), if_neg (by omega), if_neg (by omega), if_neg (by omega), if_neg (by omega)]

theorem vat_step (c : Int) (h0 : 0 ≤ c) (h1 : c ≤ 255) (j : Nat) (h2 : 2 ≤ j) (h3 : j < 6) : ∃ z d : Int, [92, 117, 48, 48, hexd (c / 16), hexd (c % 16)].getD j 0 = z ∧ 0 ≤ z ∧ z ≤ 255 ∧ hexv z = d ∧ 0 ≤ d ∧ d < 16 ∧ vat c (j + 1) = vat c j * 16 + d ∧ 0 ≤ vat c j ∧ vat c j ≤ 255 := by
  refine ⟨_, _, rfl, ?_, ?_, rfl, ?_, ?_, ?_, ?_, ?_⟩
  all_goals
    obtain rfl | rfl | rfl | rfl : j = 2 ∨ j = 3 ∨ j = 4 ∨ j = 5 := by omega
    all_goals simp [vat, hexv, hexd]
    all_goals omega

theorem reads_short (a0 : Int) (h : a0 = 34 ∨ a0 = 92 ∨ a0 = 8 ∨ a0 = 12 ∨ a0 = 10 ∨ a0 = 13 ∨ a0 = 9) (w : World) :
    Calls Try.prog 4 #[.int .u8 a0] w fun e w' => e = .returned (.bool true) ∧ Below w.heap.size w w' := by
  have H : Hid _ := h
  clear h
  go_enter Try.func4, Try.ntmps4
  go_wp2_with (go_at_call 10; refine (short_yes a0 H.out _).mono ?_; rintro e w' ⟨rfl, rfl⟩)
  go_ret
  exact ⟨rfl, Below.refl _ _⟩

theorem reads_long (a0 : Int) (h : ¬ (a0 = 34 ∨ a0 = 92 ∨ a0 = 8 ∨ a0 = 12 ∨ a0 = 10 ∨ a0 = 13 ∨ a0 = 9)) (h0 : 0 ≤ a0) (h1 : a0 ≤ 255) (w : World) :
    Calls Try.prog 4 #[.int .u8 a0] w fun e w' => e = .returned (.bool true) ∧ Below w.heap.size w w' := by
  have hs := short_no a0 (by simpa using fun e => h (by omega)) (by simpa using fun e => h (by omega)) (by simpa using fun e => h (by omega)) (by simpa using fun e => h (by omega)) (by simpa using fun e => h (by omega)) (by simpa using fun e => h (by omega)) (by simpa using fun e => h (by omega))
  have HS : Hid _ := hs
  have HV : Hid _ := vat_step a0 h0 h1
  have HE : Hid _ := escv_u a0 h
  clear hs h
  go_enter Try.func4, Try.ntmps4
  go_wp2_with (go_at_call 10; refine (HS.out _).mono ?_; rintro e w' ⟨rfl, rfl⟩)
  refine (zzesc_any a0 h0 h1 none 0 [] w ⟨rfl, fun _ => rfl, fun x hx => by cases hx⟩ (by omega)).mono ?_
  rintro e w1 ⟨v, rfl, hown, hbel⟩
  rw [HE.out] at hown
  obtain ⟨g, cap, hv, hcap, hbg, hgs, hcells⟩ := own_form hown (by simp)
  simp only [List.nil_append, List.length_cons, List.length_nil, Nat.zero_add, Nat.reduceAdd] at hv hcells
  subst hv
  have k0 : w1.cell? ⟨g, 0, none⟩ = some (.int .u8 92) := hcells 0 (by omega)
  have k1 : w1.cell? ⟨g, 1, none⟩ = some (.int .u8 117) := hcells 1 (by omega)
  have HB : Hid _ := hbel
  have HC : Hid _ := hcells
  clear hown hbel hcells hcap hbg
  go_wp2
  go_loop [4, 5] (fun n i => ∃ j : Nat, 2 ≤ j ∧ j ≤ 6 ∧ i = .int .i64 j ∧ n = .int .i32 (vat a0 j)) (fun _ i => 6 - (intOf i).toNat)
  case atStart => exact ⟨2, by omega, by omega, rfl, rfl⟩
  case round =>
    obtain ⟨j, hj1, hj2, rfl, rfl⟩ := hrel
    by_cases hlt : j < 6
    · obtain ⟨z, d, hz, hz0, hz1, hd, hd0, hd1, hvs, hv0, hv1⟩ := HV.out j hj1 hlt
      have kj := HC.out j hlt
      rw [hz] at kj
      have HVS : Hid _ := hvs
      clear hvs hz
      go_wp2_with (go_at_call 9; refine (zzhex_same z hz0 hz1 _).mono ?_; rintro e w' ⟨rfl, rfl⟩)
      all_goals
        go_round
        case rel => exact ⟨j + 1, by omega, by omega, by go_num, by rw [HVS.out]⟩
        case measure => simp [intOf]; omega
    · obtain rfl : j = 6 := by omega
      have e6 : vat a0 6 = a0 := rfl
      rw [e6]
      go_wp2
      go_ret
      exact ⟨by simp, HB.out⟩

theorem reads_walk (a0 : Int) (w0 : (Lit.int .u8 a0).wf = true) (w : World) :
    Calls Try.prog 4 #[.int .u8 a0] w fun e w' => e = .returned (.bool true) ∧ Below w.heap.size w w' := by
  obtain ⟨h0, h1⟩ := bounds_u8 w0
  by_cases h : a0 = 34 ∨ a0 = 92 ∨ a0 = 8 ∨ a0 = 12 ∨ a0 = 10 ∨ a0 = 13 ∨ a0 = 9
  · exact reads_short a0 h w
  · exact reads_long a0 h h0 h1 w
end Go.Proofs.Qxb6602759a

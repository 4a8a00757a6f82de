import Derived.Test.Qxb6602759aDecodes
import Derived.WalkSmall
namespace Go.Proofs.Qxb6602759a
open Go.ChangeShapes Go.WideShapes Go.ChangeAt Go.RowKit

theorem getD_left (zs es : List Int) (j : Nat) (h : j < zs.length) : (zs ++ es).getD j 0 = zs.getD j 0 := by
  simp [List.getD_eq_getElem?_getD, List.getElem?_append_left h]

theorem dec_short (a0 : Option Addr) (len0 cap0 : Nat) (zs : List Int) (a1 : Int) (w : World) (hr : Rd w a0 len0 zs) (hc0 : a0 = none → cap0 = 0) (hs : a1 = 34 ∨ a1 = 92 ∨ a1 = 8 ∨ a1 = 12 ∨ a1 = 10 ∨ a1 = 13 ∨ a1 = 9) (h : len0 ≤ 1048576) :
    Calls Try.prog 5 #[.slice a0 len0 cap0, .int .u8 a1] w fun e w' => e = .returned (.bool true) ∧ Below w.heap.size w w' := by
  have h0 : 0 ≤ a1 := by omega
  have h1 : a1 ≤ 255 := by omega
  obtain ⟨z, hz, hcall⟩ := shortval a1 hs
  have hl := short_len a1 hs
  have HR : Hid _ := hr
  have HC0 : Hid _ := hc0
  have HL : Hid _ := hl
  have HZ : Hid _ := hz
  have HS : Hid _ := hs
  have HCL : Hid _ := hcall
  have hzl : zs.length = len0 := hr.1
  have HZL : Hid _ := hzl
  clear hr hc0 hz hcall hl hs hzl
  go_enter Try.func5, Try.ntmps5
  go_wp2_with (first | (go_at_call 12; refine (zzDec _ _ _ _ _ h).mono ?_; rintro e w' ⟨rfl, rfl⟩) | (go_at_call 13; refine (clone_any a0 len0 cap0 zs _ HR.out HC0.out h).mono ?_; rintro e w1 ⟨a', rfl, _, hown1, hbel1⟩) | fail)
  refine (zzesc_any a1 h0 h1 a' len0 zs w1 (ownsRow_rd hown1) h).mono ?_
  rintro e w2 ⟨v, rfl, hown2, hbel2⟩
  rw [HL.out.1] at hown2
  obtain ⟨g, cap, rfl, hcap, hbg, hgs, hcells⟩ := own_form hown2 (by omega)
  have HB : Hid (Below w.heap.size w w2) := hbel1.trans (hbel2.mono hbel1.size)
  have hb0 : Rd w2 a' len0 zs := (ownsRow_rd hown1).below hbel2
  have HRB : Hid _ := hb0
  have HCE : Hid _ := hcells
  have HOW : Hid _ := hown1
  have he0 : w2.cell? ⟨g, len0, none⟩ = some (.int .u8 92) := by
    have := hcells (len0 + 0) (by omega)
    rw [← HZL.out, getD_right, HL.out.2] at this
    rw [← HZL.out]
    exact this
  have he1 : w2.cell? ⟨g, len0 + 1, none⟩ = some (.int .u8 z) := by
    have := hcells (len0 + 1) (by omega)
    rw [← HZL.out, getD_right, HZ.out] at this
    rw [← HZL.out]
    exact this
  clear hb0 hcells hown2 hbel1 hbel2 hbg hown1
  go_wp2
  go_loopw [7] (fun i wr => ∃ k : Nat, k ≤ len0 ∧ i = .int .i64 k ∧ Below w2.heap.size w2 wr) (fun i _ => len0 - (intOf i).toNat)
  case atStart => exact ⟨0, Nat.zero_le _, rfl, Below.refl _ _⟩
  case round =>
    obtain ⟨k, hk, rfl, hbk⟩ := hrel
    by_cases hlt : k < len0
    · obtain ⟨g1, cap1, hv1, _, _, _, hc1⟩ := own_form HOW.out (by omega)
      simp only [Value.slice.injEq, true_and] at hv1
      obtain ⟨rfl, rfl⟩ := hv1
      have d0 := cell_later hbk (HCE.out k (by omega))
      have d1 := cell_later hbk (HRB.out.2.2 _ rfl k hlt)
      rw [getD_left _ _ _ (by rw [HZL.out]; exact hlt)] at d0
      have ea : (⟨g1, 0, none⟩ : Addr).add k = ⟨g1, k, none⟩ := by unfold Addr.add; split <;> simp_all
      rw [ea] at d1
      generalize zs.getD k 0 = y at d0 d1
      have HBK : Hid _ := hbk
      have hki : (k : Int) < (len0 : Int) := by omega
      have hki2 : (k : Int) < (len0 : Int) + 2 := by omega
      clear hbk hc1 ea
      go_wp2
      go_quiet (fail)
      go_wp2
      all_goals
        go_roundw
        case rel => exact ⟨k + 1, by omega, by go_num, below_drewN HBK.out _⟩
        case measure => simp [intOf]; omega
    · obtain rfl : k = len0 := by omega
      have f0 := cell_later hbk he0
      have f1 := cell_later hbk he1
      have HBK : Hid _ := hbk
      clear he0 he1 hbk
      go_wp2_with (first | (go_at_call 10; refine (short_yes a1 HS.out _).mono ?_; rintro e w' ⟨rfl, rfl⟩) | (go_at_call 14; refine (HCL.out _).mono ?_; rintro e w' ⟨rfl, rfl⟩))
      go_ret
      exact ⟨by simp, HB.out.trans (HBK.out.mono HB.out.size)⟩
theorem dec_long (a0 : Option Addr) (len0 cap0 : Nat) (zs : List Int) (a1 : Int) (w : World) (hr : Rd w a0 len0 zs) (hc0 : a0 = none → cap0 = 0) (h0 : 0 ≤ a1) (h1 : a1 ≤ 255) (hs : ¬ (a1 = 34 ∨ a1 = 92 ∨ a1 = 8 ∨ a1 = 12 ∨ a1 = 10 ∨ a1 = 13 ∨ a1 = 9)) (h : len0 ≤ 1048576) :
    Calls Try.prog 5 #[.slice a0 len0 cap0, .int .u8 a1] w fun e w' => e = .returned (.bool true) ∧ Below w.heap.size w w' := by
  have HNS : Hid _ := short_no a1 (by simpa using fun e => hs (by omega)) (by simpa using fun e => hs (by omega)) (by simpa using fun e => hs (by omega)) (by simpa using fun e => hs (by omega)) (by simpa using fun e => hs (by omega)) (by simpa using fun e => hs (by omega)) (by simpa using fun e => hs (by omega))
  have HV : Hid _ := vat_step' a1 h0 h1
  have HE : Hid _ := escv_u a1 hs
  have HR : Hid _ := hr
  have HC0 : Hid _ := hc0
  have hzl : zs.length = len0 := hr.1
  have HZL : Hid _ := hzl
  clear hr hc0 hs hzl
  go_enter Try.func5, Try.ntmps5
  go_wp2_with (first | (go_at_call 12; refine (zzDec _ _ _ _ _ h).mono ?_; rintro e w' ⟨rfl, rfl⟩) | (go_at_call 13; refine (clone_any a0 len0 cap0 zs _ HR.out HC0.out h).mono ?_; rintro e w1 ⟨a', rfl, _, hown1, hbel1⟩) | fail)
  refine (zzesc_any a1 h0 h1 a' len0 zs w1 (ownsRow_rd hown1) h).mono ?_
  rintro e w2 ⟨v, rfl, hown2, hbel2⟩
  rw [HE.out] at hown2
  obtain ⟨g, cap, rfl, hcap, hbg, hgs, hcells⟩ := own_form (n := len0 + 6) hown2 (by omega)
  have HB : Hid (Below w.heap.size w w2) := hbel1.trans (hbel2.mono hbel1.size)
  have hb0 : Rd w2 a' len0 zs := (ownsRow_rd hown1).below hbel2
  have HRB : Hid _ := hb0
  have HCE : Hid _ := hcells
  have HOW : Hid _ := hown1
  have hesc : ∀ j, j < 6 → w2.cell? ⟨g, len0 + j, none⟩ = some (.int .u8 ([92, 117, 48, 48, hexd (a1 / 16), hexd (a1 % 16)].getD j 0)) := by
    intro j hj
    rw [hcells _ (by omega), ← HZL.out, getD_right]
  have he0 : w2.cell? ⟨g, len0, none⟩ = some (.int .u8 92) := hesc 0 (by omega)
  have he1 : w2.cell? ⟨g, len0 + 1, none⟩ = some (.int .u8 117) := hesc 1 (by omega)
  have HES : Hid _ := hesc
  clear hesc
  clear hb0 hcells hown2 hbel1 hbel2 hbg hown1
  go_wp2
  go_loopw [7] (fun i wr => ∃ k : Nat, k ≤ len0 ∧ i = .int .i64 k ∧ Below w2.heap.size w2 wr) (fun i _ => len0 - (intOf i).toNat)
  case atStart => exact ⟨0, Nat.zero_le _, rfl, Below.refl _ _⟩
  case round =>
    obtain ⟨k, hk, rfl, hbk⟩ := hrel
    by_cases hlt : k < len0
    · obtain ⟨g1, cap1, hv1, _, _, _, hc1⟩ := own_form HOW.out (by omega)
      simp only [Value.slice.injEq, true_and] at hv1
      obtain ⟨rfl, rfl⟩ := hv1
      have d0 := cell_later hbk (HCE.out k (by omega))
      have d1 := cell_later hbk (HRB.out.2.2 _ rfl k hlt)
      rw [getD_left _ _ _ (by rw [HZL.out]; exact hlt)] at d0
      have ea : (⟨g1, 0, none⟩ : Addr).add k = ⟨g1, k, none⟩ := by unfold Addr.add; split <;> simp_all
      rw [ea] at d1
      generalize zs.getD k 0 = y at d0 d1
      have HBK : Hid _ := hbk
      have hki : (k : Int) < (len0 : Int) := by omega
      have hki2 : (k : Int) < (len0 : Int) + 6 := by omega
      clear hbk hc1 ea
      go_wp2
      go_quiet (fail)
      go_wp2
      all_goals
        go_roundw
        case rel => exact ⟨k + 1, by omega, by go_num, below_drewN HBK.out _⟩
        case measure => simp [intOf]; omega
    · obtain rfl : k = len0 := by omega
      have f0 := cell_later hbk he0
      have f1 := cell_later hbk he1
      have HBK : Hid _ := hbk
      clear he0 he1 hbk
      go_wp2_with (go_at_call 10; refine (HNS.out _).mono ?_; rintro e w' ⟨rfl, rfl⟩)
      go_loop [9, 10] (fun n i => ∃ j : Nat, 2 ≤ j ∧ j ≤ 6 ∧ i = .int .i64 j ∧ n = .int .i64 (vat a1 j)) (fun _ i => 6 - (intOf i).toNat)
      case atStart => exact ⟨2, by omega, by omega, rfl, rfl⟩
      case round =>
        obtain ⟨j, hj1, hj2, rfl, rfl⟩ := hrel
        by_cases hlt2 : j < 6
        · obtain ⟨d, hd, hd0, hd1, hvs, hv0, hv1⟩ := HV.out j hj1 hlt2
          have kj := cell_later HBK.out (HES.out j hlt2)
          rw [hd] at kj
          have HVS : Hid _ := hvs
          clear hvs hd
          go_wp2_with (go_at_call 15; refine (low_any d hd0 hd1 _).mono ?_; rintro e w' ⟨rfl, rfl⟩)
          all_goals
            go_round
            case rel => exact ⟨j + 1, by omega, by omega, by go_num, by rw [HVS.out]⟩
            case measure => simp [intOf]; omega
        · obtain rfl : j = 6 := by omega
          have e6 : vat a1 6 = a1 := rfl
          rw [e6]
          go_wp2
          go_ret
          exact ⟨by simp, HB.out.trans (HBK.out.mono HB.out.size)⟩

theorem dec_walk (a0 : Option Addr) (len0 cap0 : Nat) (z0 : List Int) (a1 : Int) (w : World) (w0 : IsRow .u8 w a0 len0 cap0 z0) (w1 : (Lit.int .u8 a1).wf = true) :
    Calls Try.prog 5 #[.slice a0 len0 cap0, .int .u8 a1] w fun e w' => e = .returned (.bool true) ∧ Below w.heap.size w w' := by
  obtain ⟨h0, h1⟩ := bounds_u8 w1
  by_cases h : len0 ≤ 1048576
  · by_cases hs : a1 = 34 ∨ a1 = 92 ∨ a1 = 8 ∨ a1 = 12 ∨ a1 = 10 ∨ a1 = 13 ∨ a1 = 9
    · exact dec_short a0 len0 cap0 _ a1 w w0.rd.1 w0.rd.2 hs h
    · exact dec_long a0 len0 cap0 _ a1 w w0.rd.1 w0.rd.2 h0 h1 hs h
  · exact dec_big a0 len0 cap0 a1 w h
end Go.Proofs.Qxb6602759a

import Derived.Test.Qxb6602759aEsc2
namespace Go.Proofs.Qxb6602759a
open Go.ChangeShapes Go.WideShapes Go.ChangeAt Go.RowKit

theorem tail_plain_fin : ∀ c : Fin 256, ∀ j : Fin 6, j.val < (escv (c.val : Int)).length → (1 ≤ j.val → 32 ≤ (escv (c.val : Int)).getD j.val 0 ∧ (escv (c.val : Int)).getD j.val 0 ≤ 126) ∧
    (1 < j.val → (escv (c.val : Int)).getD j.val 0 ≠ 34 ∧ (escv (c.val : Int)).getD j.val 0 ≠ 92) ∧ (j.val = 0 → (escv (c.val : Int)).getD j.val 0 = 92) := by
  decide +kernel
theorem tail_plain (c : Int) (h0 : 0 ≤ c) (h1 : c ≤ 255) (j : Nat) (hj : j < (escv c).length) : (1 ≤ j → 32 ≤ (escv c).getD j 0 ∧ (escv c).getD j 0 ≤ 126) ∧
    (1 < j → (escv c).getD j 0 ≠ 34 ∧ (escv c).getD j 0 ≠ 92) ∧ (j = 0 → (escv c).getD j 0 = 92) := by
  have hl := escv_len c
  have h := tail_plain_fin ⟨c.toNat, by omega⟩ ⟨j, by omega⟩
  have e : ((c.toNat : Nat) : Int) = c := by omega
  simp only [e] at h
  exact h hj

/-- A row that the call owns, written out: its block, and its cells one by one. -/
theorem own_form {w : World} {base n : Nat} {v : Value} {zs : List Int} (h : w.ownsRow base 5 1 v n (bys zs)) (hn : 0 < n) :
    ∃ g cap, v = .slice (some ⟨g, 0, none⟩) n cap ∧ n ≤ cap ∧ base ≤ g ∧ g < w.heap.size ∧ ∀ j, j < n → w.cell? ⟨g, j, none⟩ = some (.int .u8 (zs.getD j 0)) := by
  have hl : zs.length = n := by have := h.1; simpa using this
  rcases h.2 with ⟨_, h2⟩ | ⟨g, cap, cur, rfl, hb, hg, hnc, _⟩
  · omega
  · refine ⟨g, cap, rfl, hnc, hb, (Array.getElem?_eq_some_iff.1 hg).1, fun j hj => ?_⟩
    rw [h.cellAt j (by omega), bys_get _ _ (by omega)]

theorem getD_right (zs es : List Int) (j : Nat) : (zs ++ es).getD (zs.length + j) 0 = es.getD j 0 := by
  rw [List.getD_eq_getElem?_getD, List.getElem?_append_right (by omega), List.getD_eq_getElem?_getD]
  congr 2
  omega

theorem zzTail (a : Option Addr) (n cap : Nat) (c : Int) (w : World) (h : n ≤ 1048576) :
    Calls Try.prog 16 #[.slice a n cap, .int .u8 c] w fun e w' => e = .returned (.bool true) ∧ w = w' := by
  go_enter Try.func16, Try.ntmps16
  go_wp2
  go_ret
  exact ⟨rfl, rfl⟩

theorem tail_big (a0 : Option Addr) (len0 cap0 : Nat) (a1 : Int) (w : World) (h : ¬ len0 ≤ 1048576) :
    Calls Try.prog 6 #[.slice a0 len0 cap0, .int .u8 a1] w fun e w' => e = .returned (.bool true) ∧ Below w.heap.size w w' := by
  go_enter Try.func6, Try.ntmps6
  go_wp2
  go_ret
  exact ⟨rfl, Below.refl _ _⟩

theorem tail_small (a0 : Option Addr) (len0 cap0 : Nat) (z0 : List Int) (a1 : Int) (w : World) (w0 : IsRow .u8 w a0 len0 cap0 z0) (w1 : (Lit.int .u8 a1).wf = true) (h : len0 ≤ 1048576) :
    Calls Try.prog 6 #[.slice a0 len0 cap0, .int .u8 a1] w fun e w' => e = .returned (.bool true) ∧ Below w.heap.size w w' := by
  obtain ⟨h0, h1⟩ := bounds_u8 w1
  have HR : Hid _ := w0.rd
  generalize z0.take len0 = zs at HR
  clear w0 w1
  have hm := escv_len a1
  generalize hme : (escv a1).length = m at hm
  have HM : Hid _ := hme
  clear hme
  go_enter Try.func6, Try.ntmps6
  go_wp2_with (first | (go_at_call 16; refine (zzTail _ _ _ _ _ h).mono ?_; rintro e w' ⟨rfl, rfl⟩) | (go_at_call 13; refine (clone_any a0 len0 cap0 zs _ HR.out.1 HR.out.2 h).mono ?_; rintro e w1 ⟨a', rfl, _, hown1, hbel1⟩) | fail)
  refine (zzesc_any a1 h0 h1 a' len0 zs w1 (ownsRow_rd hown1) h).mono ?_
  rintro e w2 ⟨v, rfl, hown2, hbel2⟩
  have hzl : zs.length = len0 := HR.out.1.1
  rw [HM.out] at hown2
  obtain ⟨g, cap, rfl, hcap, hbg, hgs, hcells⟩ := own_form hown2 (by omega)
  have HB : Hid (Below w.heap.size w w2) := hbel1.trans (hbel2.mono hbel1.size)
  have hesc : ∀ j, j < m → w2.cell? ⟨g, len0 + j, none⟩ = some (.int .u8 ((escv a1).getD j 0)) := by
    intro j hj
    rw [hcells _ (by omega), ← hzl, getD_right]
  have HP : Hid (∀ j, j < m → (1 ≤ j → 32 ≤ (escv a1).getD j 0 ∧ (escv a1).getD j 0 ≤ 126) ∧
    (1 < j → (escv a1).getD j 0 ≠ 34 ∧ (escv a1).getD j 0 ≠ 92) ∧ (j = 0 → (escv a1).getD j 0 = 92)) := fun j hj => tail_plain a1 h0 h1 j (by rw [HM.out]; exact hj)
  have hfirst : w2.cell? ⟨g, len0, none⟩ = some (.int .u8 92) := by
    have := hesc 0 (by omega)
    rw [(HP.out 0 (by omega)).2.2 rfl] at this
    exact this
  have HE : Hid _ := hesc
  clear hesc hcells hown1 hown2 hbel1 hbel2 hzl hbg
  rcases hm with rfl | rfl
  · go_wp2
    go_loop [7] (fun i => ∃ j : Nat, 1 ≤ j ∧ j ≤ 2 ∧ i = .int .i64 ((len0 : Int) + j)) (fun i => len0 + 6 - (intOf i).toNat)
    case atStart => exact ⟨1, by omega, by omega, rfl⟩
    case round =>
      obtain ⟨j, hj1, hj2, rfl⟩ := hrel
      by_cases hlt : j < 2
      · have hcj := HE.out j hlt
        have hpj := HP.out j hlt
        generalize (escv a1).getD j 0 = z at hcj hpj
        obtain ⟨hz1, hz2⟩ := hpj.1 hj1
        have hpj2 := hpj.2.1
        clear hpj
        have ht : ((len0 : Int) + (j : Int)).toNat = len0 + j := by omega
        by_cases hj : 1 < j
        · have hp34 : (z == 34) = false := by simpa using (hpj2 hj).1
          have hp92 : (z == 92) = false := by simpa using (hpj2 hj).2
          clear hpj2
          go_wp2
          all_goals
            go_round
            case rel => exact ⟨j + 1, by omega, by omega, by go_num⟩
            case measure => simp [intOf]; omega
        · clear hpj2
          go_wp2
          all_goals
            go_round
            case rel => exact ⟨j + 1, by omega, by omega, by go_num⟩
            case measure => simp [intOf]; omega
      · obtain rfl : j = 2 := by omega
        go_wp2
        go_ret
        exact ⟨rfl, HB.out⟩
  · go_wp2
    go_loop [7] (fun i => ∃ j : Nat, 1 ≤ j ∧ j ≤ 6 ∧ i = .int .i64 ((len0 : Int) + j)) (fun i => len0 + 6 - (intOf i).toNat)
    case atStart => exact ⟨1, by omega, by omega, rfl⟩
    case round =>
      obtain ⟨j, hj1, hj2, rfl⟩ := hrel
      by_cases hlt : j < 6
      · have hcj := HE.out j hlt
        have hpj := HP.out j hlt
        generalize (escv a1).getD j 0 = z at hcj hpj
        obtain ⟨hz1, hz2⟩ := hpj.1 hj1
        have hpj2 := hpj.2.1
        clear hpj
        have ht : ((len0 : Int) + (j : Int)).toNat = len0 + j := by omega
        by_cases hj : 1 < j
        · have hp34 : (z == 34) = false := by simpa using (hpj2 hj).1
          have hp92 : (z == 92) = false := by simpa using (hpj2 hj).2
          clear hpj2
          go_wp2
          all_goals
            go_round
            case rel => exact ⟨j + 1, by omega, by omega, by go_num⟩
            case measure => simp [intOf]; omega
        · clear hpj2
          go_wp2
          all_goals
            go_round
            case rel => exact ⟨j + 1, by omega, by omega, by go_num⟩
            case measure => simp [intOf]; omega
      · obtain rfl : j = 6 := by omega
        go_wp2
        go_ret
        exact ⟨rfl, HB.out⟩

theorem tail_walk (a0 : Option Addr) (len0 cap0 : Nat) (z0 : List Int) (a1 : Int) (w : World) (w0 : IsRow .u8 w a0 len0 cap0 z0) (w1 : (Lit.int .u8 a1).wf = true) :
    Calls Try.prog 6 #[.slice a0 len0 cap0, .int .u8 a1] w fun e w' => e = .returned (.bool true) ∧ Below w.heap.size w w' := by
  by_cases h : len0 ≤ 1048576
  · exact tail_small a0 len0 cap0 z0 a1 w w0 w1 h
  · exact tail_big a0 len0 cap0 a1 w h
end Go.Proofs.Qxb6602759a

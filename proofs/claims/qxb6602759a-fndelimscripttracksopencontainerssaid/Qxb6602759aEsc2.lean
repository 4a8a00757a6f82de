import Derived.Test.Qxb6602759aEsc
namespace Go.Proofs.Qxb6602759a
open Go.ChangeShapes Go.WideShapes Go.ChangeAt Go.RowKit
theorem hexDig_fin : ∀ k : Fin 16, ((({ data := #[48, 49, 50, 51, 52, 53, 54, 55, 56, 57, 97, 98, 99, 100, 101, 102] } : ByteArray)[k.val]'(k.isLt)).toNat : Int) = hexd (k.val : Int) := by
  decide +kernel
theorem hexDig (x : Int) (h0 : 0 ≤ x) (h1 : x < 16) : ((({ data := #[48, 49, 50, 51, 52, 53, 54, 55, 56, 57, 97, 98, 99, 100, 101, 102] } : ByteArray)[x.toNat]'(show x.toNat < 16 by omega)).toNat : Int) = hexd x := by
  have h := hexDig_fin ⟨x.toNat, by omega⟩
  dsimp only at h
  rw [h]
  congr 1
  omega

theorem and15_fin : ∀ n : Fin 256, bits .and .u8 (n.val : Int) 15 = (n.val : Int) % 16 := by decide +kernel
theorem and15 (c : Int) (h0 : 0 ≤ c) (h1 : c ≤ 255) : bits .and .u8 c 15 = c % 16 := by
  have h := and15_fin ⟨c.toNat, by omega⟩
  have e : ((c.toNat : Nat) : Int) = c := by omega
  simp only [e] at h
  exact h

theorem esc_u (c : Int) (h0 : 0 ≤ c) (h1 : c ≤ 255) (c1 : (c == 34) = false) (c2 : (c == 92) = false) (c3 : (c == 8) = false) (c4 : (c == 12) = false) (c5 : (c == 10) = false) (c6 : (c == 13) = false) (c7 : (c == 9) = false)
    (a : Option Addr) (n : Nat) (zs : List Int) (w : World) (hr : Rd w a n zs) (hn : n ≤ 1048576) :
    Calls Try.prog 24 #[.slice a n n, .int .u8 c] w fun e w' => ∃ v, e = .returned v ∧ w'.ownsRow w.heap.size 5 1 v (n + 6) (bys (zs ++ [92, 117, 48, 48, hexd (c / 16), hexd (c % 16)])) ∧ Below w.heap.size w w' := by
  obtain ⟨i0, hi, hz0, hz1, hz2⟩ := info_parts Try.info5
  have HR : Hid (Rd w.drew a n zs) := hr
  have q0 : 0 ≤ c / 16 := by omega
  have q1 : c / 16 < 16 := by omega
  have r0 : 0 ≤ c % 16 := by omega
  have r1 : c % 16 < 16 := by omega
  have hq := hexDig _ q0 q1
  have hd := hexDig _ r0 r1
  have ha := and15 c h0 h1
  clear hr
  go_enter Try.func24, Try.ntmps24
  go_wp2_with fail
  go_region_law (refine step_append_grows rfl (.tmp 38) (.tmp 45) 24 rfl 5 i0 (.int .u8 0) 1 1 Try.underlying24 hi hz0 hz1 hz2 rfl (by decide) a n n (bys zs) (by simp [Act.eval]) (fun h => ⟨HR.out.2.1 h, HR.out.2.1 h⟩) (by simpa using HR.out.1) (olds_alloc HR.out _) ⟨w.heap.size, 0, none⟩ 6 6 (bys [92, 117, 48, 48, hexd (c / 16), hexd (c % 16)]) (by simp [Act.eval]) rfl (news_alloc w.drew _) (by simp [bys, Value.oneCell']) (by omega) (by unfold maxLen; omega) (by omega) ?_; intro v' w1 hown hgrow)
  all_goals
    go_wp2
    go_ret
    have h := esc_end (w := w.drew) (ns := [92, 117, 48, 48, hexd (c / 16), hexd (c % 16)]) hown hgrow
    exact ⟨v', rfl, h.1, ⟨h.2.os, h.2.tape, h.2.output, h.2.size, h.2.block⟩⟩

theorem escv_len (c : Int) : (escv c).length = 2 ∨ (escv c).length = 6 := by
  unfold escv
  repeat' split
  all_goals simp

theorem esc_any (c : Int) (h0 : 0 ≤ c) (h1 : c ≤ 255) (a : Option Addr) (n : Nat) (zs : List Int) (w : World) (hr : Rd w a n zs) (hn : n ≤ 1048576) :
    Calls Try.prog 24 #[.slice a n n, .int .u8 c] w fun e w' => ∃ v, e = .returned v ∧ w'.ownsRow w.heap.size 5 1 v (n + (escv c).length) (bys (zs ++ escv c)) ∧ Below w.heap.size w w' := by
  by_cases c1 : c = 34
  · subst c1; exact esc_34 a n zs w hr hn
  by_cases c2 : c = 92
  · subst c2; exact esc_92 a n zs w hr hn
  by_cases c3 : c = 8
  · subst c3; exact esc_8 a n zs w hr hn
  by_cases c4 : c = 12
  · subst c4; exact esc_12 a n zs w hr hn
  by_cases c5 : c = 10
  · subst c5; exact esc_10 a n zs w hr hn
  by_cases c6 : c = 13
  · subst c6; exact esc_13 a n zs w hr hn
  by_cases c7 : c = 9
  · subst c7; exact esc_9 a n zs w hr hn
  have e : escv c = [92, 117, 48, 48, hexd (c / 16), hexd (c % 16)] := by unfold escv; simp only [if_neg c1, if_neg c2, if_neg c3, if_neg c4, if_neg c5, if_neg c6, if_neg c7]
  rw [e]
  exact esc_u c h0 h1 (by simpa using c1) (by simpa using c2) (by simpa using c3) (by simpa using c4) (by simpa using c5) (by simpa using c6) (by simpa using c7) a n zs w hr hn

theorem zzesc_any (c : Int) (h0 : 0 ≤ c) (h1 : c ≤ 255) (a : Option Addr) (n : Nat) (zs : List Int) (w : World) (hr : Rd w a n zs) (hn : n ≤ 1048576) :
    Calls Try.prog 11 #[.slice a n n, .int .u8 c] w fun e w' => ∃ v, e = .returned v ∧ w'.ownsRow w.heap.size 5 1 v (n + (escv c).length) (bys (zs ++ escv c)) ∧ Below w.heap.size w w' := by
  have HR : Hid _ := hr
  clear hr
  go_enter Try.func11, Try.ntmps11
  go_wp2_with (go_at_call 24; refine (esc_any c h0 h1 a n zs _ HR.out hn).mono ?_; rintro e w' ⟨v, rfl, hown, hbel⟩)
  go_ret
  exact ⟨v, rfl, hown, hbel⟩
end Go.Proofs.Qxb6602759a

import Derived.Test.Qxb6603129aProj
namespace Go.Proofs.Qxb6603129a
open Go.ChangeShapes Go.WideShapes Go.ChangeAt Go.RowKit

theorem dig_yes (c : Int) (h0 : 48 ≤ c) (h1 : c ≤ 57) (w : World) : Calls Try.prog 18 #[.int .u8 c] w fun e w' => e = .returned (.bool true) ∧ w = w' := by
  go_enter Try.func18, Try.ntmps18
  go_wp2
  go_ret
  exact ⟨ret_bool (by simp), rfl⟩
theorem dig_no (c : Int) (h : c < 48 ∨ 57 < c) (w : World) : Calls Try.prog 18 #[.int .u8 c] w fun e w' => e = .returned (.bool false) ∧ w = w' := by
  rcases h with h | h
  · have h' : ¬ 48 ≤ c := by omega
    go_enter Try.func18, Try.ntmps18
    go_wp2
    go_ret
    exact ⟨ret_bool (by simp), rfl⟩
  · have h' : 48 ≤ c := by omega
    go_enter Try.func18, Try.ntmps18
    go_wp2
    go_ret
    exact ⟨ret_bool (by simp; omega), rfl⟩

theorem take_snoc (s : ByteArray) (k : Nat) (h : k < s.size) : s.data.toList.take (k + 1) = s.data.toList.take k ++ [s[k]] := by
  rw [List.take_succ_eq_append_getElem (by simpa using h)]; rfl

theorem val_bound (l : List UInt8) (h : allDig l = true) (hl : l.length ≤ 18) : val l ≤ 999999999999999999 := by
  have h1 := val_lt l h
  have h2 : 10 ^ l.length ≤ 10 ^ 18 := Nat.pow_le_pow_right (by omega) hl
  have h3 : 10 ^ 18 = 999999999999999999 + 1 := by decide +kernel
  omega

theorem model_short (s : ByteArray) (w : World) (hm : s.size ≤ maxLen) (h : s.size = 0 ∨ 19 < s.size) :
    Calls Try.prog 9 #[.string s] w fun e w' => e = .returned (.bool (okB s.data.toList)) ∧ w = w' := by
  have e1 : okB s.data.toList = false := by
    rcases h with h | h
    · simp [okB, h]
    · have : ¬ s.size ≤ 19 := by omega
      simp [okB, this]
  rw [e1]
  clear e1
  unfold maxLen at hm
  rcases h with h | h
  · have h1 : ((s.size : Int) == 0) = true := by simp [h]
    clear h
    go_enter Try.func9, Try.ntmps9
    go_wp2
    go_ret
    exact ⟨rfl, rfl⟩
  · have h1 : ((s.size : Int) == 0) = false := by rw [beq_eq_false_iff_ne]; omega
    go_enter Try.func9, Try.ntmps9
    go_wp2
    go_ret
    exact ⟨rfl, rfl⟩

theorem model_mid (s : ByteArray) (w : World) (h0 : 0 < s.size) (h : s.size ≤ 19) :
    Calls Try.prog 9 #[.string s] w fun e w' => e = .returned (.bool (okB s.data.toList)) ∧ w = w' := by
  have h1 : ((s.size : Int) == 0) = false := by rw [beq_eq_false_iff_ne]; omega
  go_enter Try.func9, Try.ntmps9
  go_wp2
  go_loop [3, 4] (fun v i => ∃ k : Nat, k ≤ s.size ∧ i = .int .i64 k ∧ v = .int .u64 (val (s.data.toList.take k) : Nat) ∧ allDig (s.data.toList.take k) = true) (fun _ i => s.size - (intOf i).toNat)
  case atStart => exact ⟨0, Nat.zero_le _, rfl, rfl, rfl⟩
  case round =>
    obtain ⟨k, hk, rfl, rfl, hall⟩ := hrel
    have HALL := hid hall
    clear hall
    by_cases hlt : k < s.size
    · have hv := val_bound _ HALL.out (by simp; omega)
      have ht := take_snoc s k hlt
      cases hd : isDig s[k] with
      | true =>
        have hb := (isDig_iff _).1 hd
        have c0 : (48 : Int) ≤ (s[k].toNat : Int) := by omega
        have c1 : (s[k].toNat : Int) ≤ 57 := by omega
        have HN : Hid (val (s.data.toList.take (k + 1)) = val (s.data.toList.take k) * 10 + (s[k].toNat - 48) ∧ allDig (s.data.toList.take (k + 1)) = true) := by
          rw [ht]
          refine ⟨val_snoc _ _, ?_⟩
          have := HALL.out
          unfold allDig at *
          rw [List.all_append, this]
          simp [hd]
        generalize val (s.data.toList.take k) = v at hv HN
        clear ht hd hb
        go_wp2_with (go_at_call 18; refine (dig_yes _ c0 c1 _).mono ?_; rintro e W' ⟨rfl, rfl⟩)
        go_round
        case rel => exact ⟨k + 1, by omega, by go_num, by rw [HN.out.1]; go_num, HN.out.2⟩
        case measure => simp [intOf]; omega
      | false =>
        have hb : ¬ (48 ≤ s[k].toNat ∧ s[k].toNat ≤ 57) := fun hh => by rw [(isDig_iff _).2 hh] at hd; cases hd
        have HC : Hid ((s[k].toNat : Int) < 48 ∨ 57 < (s[k].toNat : Int)) := by show _ ∨ _; omega
        have e1 : okB s.data.toList = false := by
          have : allDig s.data.toList = false := not_all (l := s.data.toList) (pos := k) (by simpa using hlt) hd
          simp [okB, this]
        have E1 := hid e1
        clear ht hd hb e1
        go_wp2_with (go_at_call 18; refine (dig_no _ HC.out _).mono ?_; rintro e W' ⟨rfl, rfl⟩)
        go_ret
        exact ⟨ret_bool (by rw [E1.out]), rfl⟩
    · obtain rfl : k = s.size := by omega
      have hfull : s.data.toList.take s.size = s.data.toList := List.take_of_length_le (by simp)
      rw [hfull] at HALL ⊢
      have e1 : okB s.data.toList = decide (val s.data.toList ≤ maxv) := by
        simp [okB, HALL.out]
        omega
      have E1 := hid e1
      clear e1 hfull
      go_wp2
      go_ret
      refine ⟨ret_bool ?_, rfl⟩
      rw [E1.out]
      unfold maxv
      simp
      omega
end Go.Proofs.Qxb6603129a

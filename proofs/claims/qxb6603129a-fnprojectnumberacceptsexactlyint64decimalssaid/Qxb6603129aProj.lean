import Derived.Test.Qxb6603129aIndex
namespace Go.Proofs.Qxb6603129a
open Go.ChangeShapes Go.WideShapes Go.ChangeAt Go.RowKit

theorem idxF_any (s : ByteArray) (w : World) :
    Calls Try.prog 28 #[.string s, .func (.func 23) #[] #[]] w fun e w' => ∃ i : Int, e = .returned (.int .i64 i) ∧ (allDig s.data.toList = true → i = -1) ∧ (allDig s.data.toList = false → 0 ≤ i) ∧ Below w.heap.size w w' := by
  go_enter Try.func28, Try.ntmps28
  go_wp2_with fail
  refine (idx_any s w).mono ?_
  rintro e w' ⟨i, rfl, h1, h2, h3⟩
  have H1 := hid h1
  have H2 := hid h2
  have H3 := hid h3
  clear h1 h2 h3
  go_wp2
  go_ret
  exact ⟨i, rfl, H1.out, H2.out, H3.out⟩

theorem contains_any (s : ByteArray) (w : World) :
    Calls Try.prog 22 #[.string s, .func (.func 23) #[] #[]] w fun e w' => e = .returned (.bool (!allDig s.data.toList)) ∧ Below w.heap.size w w' := by
  go_enter Try.func22, Try.ntmps22
  go_wp2_with fail
  refine (idxF_any s w).mono ?_
  rintro e w' ⟨i, rfl, h1, h2, h3⟩
  have H1 := hid h1
  have H2 := hid h2
  have H3 := hid h3
  clear h1 h2 h3
  go_wp2
  go_ret
  refine ⟨ret_bool ?_, H3.out⟩
  cases h : allDig s.data.toList with
  | true => rw [H1.out h]; rfl
  | false => simp [H2.out h]

theorem size_len (s : ByteArray) : s.data.toList.length = s.size := by rw [Array.length_toList]; rfl

theorem proj_none (s : ByteArray) (w : World) (h : s.size = 0) :
    Calls Try.prog 17 #[.string s] w fun e w' => e = .returned (.bool (okB s.data.toList)) ∧ Below w.heap.size w w' := by
  have e1 : okB s.data.toList = false := by simp [okB, h]
  rw [e1]
  have he : s.toList.isEmpty = true := by rw [Lib.toList_data, List.isEmpty_iff, ← List.length_eq_zero_iff, size_len, h]
  clear e1 h
  go_enter Try.func17, Try.ntmps17
  go_wp2
  go_ret
  exact ⟨rfl, Below.refl _ _⟩

theorem proj_long (s : ByteArray) (w : World) (hm : s.size ≤ maxLen) (h : 19 < s.size) :
    Calls Try.prog 17 #[.string s] w fun e w' => e = .returned (.bool (okB s.data.toList)) ∧ Below w.heap.size w w' := by
  have e1 : okB s.data.toList = false := by
    have : ¬ s.size ≤ 19 := by omega
    simp [okB, this]
  rw [e1]
  have he : s.toList.isEmpty = false := by rw [Lib.toList_data, List.isEmpty_eq_false_iff, ← List.length_pos_iff, size_len]; omega
  unfold maxLen at hm
  clear e1
  go_enter Try.func17, Try.ntmps17
  go_wp2
  go_ret
  exact ⟨rfl, Below.refl _ _⟩

theorem proj_mid (s : ByteArray) (w : World) (h0 : 0 < s.size) (h : s.size ≤ 19) :
    Calls Try.prog 17 #[.string s] w fun e w' => e = .returned (.bool (okB s.data.toList)) ∧ Below w.heap.size w w' := by
  have he : s.toList.isEmpty = false := by rw [Lib.toList_data, List.isEmpty_eq_false_iff, ← List.length_pos_iff, size_len]; omega
  cases hd : allDig s.data.toList with
  | false =>
    have e1 : okB s.data.toList = false := by simp [okB, hd]
    rw [e1]
    have HD := hid hd
    clear e1 hd
    go_enter Try.func17, Try.ntmps17
    go_wp2_with fail
    refine (contains_any s w).mono ?_
    rw [HD.out]
    rintro e w' ⟨rfl, h3⟩
    have H3 := hid h3
    clear h3
    go_wp2
    go_ret
    exact ⟨rfl, H3.out⟩
  | true =>
    have HD := hid hd
    clear hd
    by_cases hl : s.size < 19
    · have e1 : okB s.data.toList = true := by
        have h18 := law18 s.data.toList (by rw [size_len]; exact hl) HD.out
        simp [okB, HD.out, h18]
        omega
      rw [e1]
      clear e1
      go_enter Try.func17, Try.ntmps17
      go_wp2_with fail
      refine (contains_any s w).mono ?_
      rw [HD.out]
      rintro e w' ⟨rfl, h3⟩
      have H3 := hid h3
      clear h3
      go_wp2
      go_ret
      exact ⟨rfl, H3.out⟩
    · have e1 : okB s.data.toList = decide (val s.data.toList ≤ maxv) := by
        have e19 : s.size = 19 := by omega
        simp [okB, HD.out, e19]
      rw [e1, ← law19 _ (by rw [size_len]; omega) HD.out]
      clear e1
      go_enter Try.func17, Try.ntmps17
      go_wp2_with fail
      refine (contains_any s w).mono ?_
      rw [HD.out]
      rintro e w' ⟨rfl, h3⟩
      have H3 := hid h3
      clear h3
      go_wp2
      go_ret
      refine ⟨ret_bool ?_, H3.out⟩
      have hs : decide ((s.size : Int) < 19) = false := by simp; omega
      rw [Lib.toList_data, hs, Bool.false_or]
      rfl

/-- gcp.isProjectNumber, at every string. -/
theorem proj_any (s : ByteArray) (w : World) (hm : s.size ≤ maxLen) :
    Calls Try.prog 17 #[.string s] w fun e w' => e = .returned (.bool (okB s.data.toList)) ∧ Below w.heap.size w w' := by
  by_cases h0 : s.size = 0
  · exact proj_none s w h0
  · by_cases h1 : s.size ≤ 19
    · exact proj_mid s w (by omega) h1
    · exact proj_long s w hm (by omega)

theorem zzproj_any (s : ByteArray) (w : World) (hm : s.size ≤ maxLen) :
    Calls Try.prog 8 #[.string s] w fun e w' => e = .returned (.bool (okB s.data.toList)) ∧ Below w.heap.size w w' := by
  go_enter Try.func8, Try.ntmps8
  go_wp2_with fail
  refine (proj_any s w hm).mono ?_
  rintro e w' ⟨rfl, h3⟩
  have H3 := hid h3
  clear h3
  go_wp2
  go_ret
  exact ⟨rfl, H3.out⟩
end Go.Proofs.Qxb6603129a

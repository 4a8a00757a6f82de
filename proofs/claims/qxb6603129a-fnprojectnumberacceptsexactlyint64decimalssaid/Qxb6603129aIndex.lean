import Derived.Test.Qxb6603129aPlain
import Derived.Deep.LoopGhost
import Derived.Lib.DecodeN
namespace Go.Proofs.Qxb6603129a
open Go.ChangeShapes Go.WideShapes Go.ChangeAt Go.RowKit

/-! ### UTF-8: a byte below 128 is its own rune; else the rune is 128 or more -/
theorem dec_ascii (s : ByteArray) (i : Nat) (h : (s.get! i).toNat < 128) : Utf8.decode s i = ((s.get! i).toNat, 1) := by
  unfold Utf8.decode
  simp only [Nat.add_zero]
  rw [if_pos h]
set_option maxRecDepth 100000 in
theorem decN_high (n b0 b1 b2 b3 : Nat) (h : ¬ b0 < 128) : 128 ≤ (Lib.decodeN n b0 b1 b2 b3).1 := by
  unfold Lib.decodeN
  rw [if_neg h]
  repeat' split
  all_goals (simp only; omega)
theorem dec_high (s : ByteArray) (i : Nat) (h : ¬ (s.get! i).toNat < 128) : 128 ≤ (Utf8.decode s i).1 := by
  rw [Lib.decode_at]
  exact decN_high _ _ _ _ _ h
theorem get_data (s : ByteArray) (i : Nat) (h : i < s.size) : s.get! i = s.data.toList[i]'(by simpa using h) := by
  show s.data[i]! = _
  rw [getElem!_pos s.data i h]
  simp

/-- The rune at a place, as the predicate sees it. -/
theorem rune_at (s : ByteArray) (i : Nat) (h : i < s.size) : (isDig (s.data.toList[i]'(by simpa using h)) = true → Utf8.decode s i = ((s.get! i).toNat, 1) ∧ 48 ≤ (Utf8.decode s i).1 ∧ (Utf8.decode s i).1 ≤ 57) ∧
    (isDig (s.data.toList[i]'(by simpa using h)) = false → (Utf8.decode s i).1 < 48 ∨ 57 < (Utf8.decode s i).1) := by
  rw [← get_data s i h]
  constructor
  · intro hd
    have hb := (isDig_iff _).1 hd
    have e := dec_ascii s i (by omega)
    rw [e]
    exact ⟨rfl, hb⟩
  · intro hd
    by_cases ha : (s.get! i).toNat < 128
    · rw [dec_ascii s i ha]
      have : ¬ (48 ≤ (s.get! i).toNat ∧ (s.get! i).toNat ≤ 57) := fun hh => by rw [(isDig_iff _).2 hh] at hd; cases hd
      show (s.get! i).toNat < 48 ∨ 57 < (s.get! i).toNat
      omega
    · have := dec_high s i ha
      omega

/-! ### The closure: 'r < 48 || r > 57' -/
theorem clos_no (r : Int) (h0 : 48 ≤ r) (h1 : r ≤ 57) (w : World) : Calls Try.prog 23 #[.int .i32 r] w fun e w' => e = .returned (.bool false) ∧ w = w' := by
  have h2 : ¬ r < 48 := by omega
  have h3 : ¬ 57 < r := by omega
  go_enter Try.func23, Try.ntmps23
  go_wp2
  go_ret
  exact ⟨ret_bool (by simp), rfl⟩
theorem clos_yes (r : Int) (h : r < 48 ∨ 57 < r) (w : World) : Calls Try.prog 23 #[.int .i32 r] w fun e w' => e = .returned (.bool true) ∧ w = w' := by
  rcases h with h | h
  · go_enter Try.func23, Try.ntmps23
    go_wp2
    go_ret
    exact ⟨rfl, rfl⟩
  · have h' : ¬ r < 48 := by omega
    go_enter Try.func23, Try.ntmps23
    go_wp2
    go_ret
    exact ⟨rfl, rfl⟩

theorem all_from {l : List UInt8} {pos : Nat} (h : allDig (l.take pos) = true) (hp : pos < l.length) (hd : isDig (l[pos]'hp) = true) : allDig (l.take (pos + 1)) = true := by
  rw [List.take_succ_eq_append_getElem hp]
  unfold allDig at *
  rw [List.all_append, h]
  simp [hd]
theorem not_all {l : List UInt8} {pos : Nat} (hp : pos < l.length) (hd : isDig (l[pos]'hp) = false) : allDig l = false := by
  unfold allDig
  rw [List.all_eq_false]
  exact ⟨l[pos]'hp, List.getElem_mem hp, by simp [hd]⟩

/-- strings.indexFunc at that closure: -1 just where all bytes are digits. -/
theorem idx_any (s : ByteArray) (w : World) :
    Calls Try.prog 32 #[.string s, .func (.func 23) #[] #[], .bool true] w fun e w' => ∃ i : Int, e = .returned (.int .i64 i) ∧ (allDig s.data.toList = true → i = -1) ∧ (allDig s.data.toList = false → 0 ≤ i) ∧ Below w.heap.size w w' := by
  go_enter Try.func32, Try.ntmps32
  go_wp2
  go_loopg [] s.size (fun gf wx => ∃ pos : Nat, pos ≤ s.size ∧ wx.heap[w.heap.size]? = some (.stringIter s pos) ∧ Below w.heap.size w wx ∧ allDig (s.data.toList.take pos) = true ∧ s.size = pos + gf)
  case atStart => exact ⟨0, Nat.zero_le _, World.iter_heap w s 0, (Below.refl _ w).alloc (Nat.le_refl _) _, by simp [allDig], by omega⟩
  case round =>
    obtain ⟨pos, hpos, hit, hbw, hall, hfu⟩ := hrel
    have HALL := hid hall
    have HFU := hid hfu
    clear hall hfu
    by_cases hps : pos < s.size
    · obtain ⟨g', hg'⟩ : ∃ g', gk = g' + 1 := ⟨gk - 1, by have := HFU.out; omega⟩
      have HG := hid hg'
      clear hg'
      have hnx : ∀ ty, (Instr.next (.pointer (some ⟨w.heap.size, 0, none⟩)) true ty).run Try.prog wr = _ := fun ty => Lib.run_next_any_at wr w.heap.size s pos ty hit hps
      have hr := rune_at s pos hps
      obtain ⟨R, hR⟩ : ∃ R, (Utf8.decode s pos).1 = R := ⟨_, rfl⟩
      obtain ⟨K, hK⟩ : ∃ K, (Utf8.decode s pos).2 = K := ⟨_, rfl⟩
      rw [hR, hK] at hnx
      have hit2 := Lib.iterAt_heap wr w.heap.size s pos (pos + K) hit
      have hbw2 := Lib.below_iterAt hbw (k := w.heap.size) (Nat.le_refl _) s (pos + K)
      obtain ⟨W, hWd⟩ : ∃ W, wr.iterAt w.heap.size s (pos + K) = W := ⟨_, rfl⟩
      rw [hWd] at hnx hit2 hbw2
      have HIT := hid hit2
      have HBW := hid hbw2
      clear hit2 hbw2 hWd hit hbw
      cases hd : isDig (s.data.toList[pos]'(by simpa using hps)) with
      | true =>
        have h2 := hr.1 hd
        have hK1 : K = 1 := by rw [← hK, h2.1]
        subst hK1
        have hR1 : (48 : Int) ≤ (R : Int) := by rw [← hR]; omega
        have hR2 : (R : Int) ≤ 57 := by rw [← hR]; omega
        have HN := hid (all_from HALL.out (by simpa using hps) hd)
        clear hr h2 hd hR hK
        go_wp2_with (go_at_call 23; refine (clos_no (R : Int) hR1 hR2 _).mono ?_; rintro e W' ⟨rfl, rfl⟩)
        go_roundg g'
        case measure => have := HG.out; omega
        case rel => exact ⟨pos + 1, by omega, HIT.out, HBW.out, HN.out, by have := HG.out; have := HFU.out; omega⟩
      | false =>
        have h2 := hr.2 hd
        have hR1 : (R : Int) < 48 ∨ 57 < (R : Int) := by rw [← hR]; omega
        have HN := hid (not_all (by simpa using hps) hd)
        have HR1 := hid hR1
        clear hr h2 hd hR hK hR1
        go_wp2_with (go_at_call 23; refine (clos_yes (R : Int) HR1.out _).mono ?_; rintro e W' ⟨rfl, rfl⟩)
        go_ret
        exact ⟨_, rfl, fun hh => absurd hh (by rw [HN.out]; simp), fun _ => by omega, HBW.out⟩
    · have hnx : ∀ ty, (Instr.next (.pointer (some ⟨w.heap.size, 0, none⟩)) true ty).run Try.prog wr = _ := fun ty => Lib.run_next_end_at wr w.heap.size s pos ty hit hps
      obtain rfl : pos = s.size := by omega
      have HBW := hid hbw
      clear hit hbw
      go_wp2
      go_ret
      refine ⟨-1, rfl, fun _ => rfl, fun hh => ?_, HBW.out⟩
      have := HALL.out
      rw [List.take_of_length_le (by simp)] at this
      rw [this] at hh
      cases hh
end Go.Proofs.Qxb6603129a

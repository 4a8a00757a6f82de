import Derived.Test.Qxb6603129aDecimal
namespace Go.Proofs.Qxb6603129a
open Go.ChangeShapes Go.WideShapes Go.ChangeAt Go.RowKit

def IsBuf (w : World) (B k u : Nat) : Prop := w.heap[B]? = some (.cells (bufAt k u).toArray 28 (0, 0))
theorem IsBuf.cell {w : World} {B k u : Nat} (h : IsBuf w B k u) (hk : k ≤ 20) (j : Nat) (hj : j < 20) : ∃ v, w.cell? ⟨B, j, none⟩ = some v := by
  rw [cell_of_row w B j _ 28 (0, 0) h]
  have : j < (bufAt k u).length := by rw [bufAt_len _ _ hk]; exact hj
  exact ⟨(bufAt k u)[j], by simp⟩
theorem IsBuf.frozen {w : World} {B k u : Nat} (h : IsBuf w B k u) (j : Nat) : w.frozen? ⟨B, j, none⟩ = false := frozen_of_row w B j _ 28 h
theorem IsBuf.set {w : World} {B k u : Nat} (h : IsBuf w B k u) (hk : k < 20) : IsBuf (w.setCell ⟨B, 19 - k, none⟩ (.int .u8 ((48 + u / 10 ^ k % 10 : Nat) : Int))) B (k + 1) u := by
  unfold IsBuf
  rw [heap_setCell_same w B (19 - k) _ 28 _ h, ← bufAt_succ k u hk]
  simp
theorem IsBuf.tail {w : World} {B k u : Nat} (h : IsBuf w B k u) (j : Nat) (hj : j < (digs k u).length) : w.cell? ((⟨B, 20 - k, none⟩ : Addr).add j) = some (.int .u8 (((digs k u)[j]).toNat : Int)) := by
  have ea : (⟨B, 20 - k, none⟩ : Addr).add j = ⟨B, 20 - k + j, none⟩ := by unfold Addr.add; split <;> simp_all
  rw [ea, cell_of_row w B _ _ 28 (0, 0) h]
  simp [bufAt, hj]

theorem Try.len28 : Try.prog.arrayLen 28 = 20 := by kernel_rfl
theorem Try.elem28 : Try.prog.elem 28 = 5 := by kernel_rfl
theorem Try.info5 : (Try.prog.info? 5).map (fun i => (i.zero, i.size, i.bytes)) = some (some (.int .u8 0), 1, 1) := by kernel_rfl

/-- 'buf[i:]', i below 20. -/
theorem slice_buf (B j k : Nat) (h : j + (k + 1) = 20) (W : World) :
    (Instr.sliceAt 28 (.pointer (some ⟨B, 0, none⟩)) (some (.int .i64 (j : Int))) none none).run Try.prog W = .ok (.slice (some ⟨B, j, none⟩) (k + 1) (k + 1)) W := by
  obtain ⟨i0, hi, hz0, hz1, hz2⟩ := info_parts Try.info5
  have hu : Try.prog.underlying 28 = some (.array (Try.prog.arrayLen 28) (Try.prog.elem 28)) := by rw [Try.len28, Try.elem28]; exact Try.underlying28
  rw [run_sliceAt_array_l W 28 ⟨B, 0, none⟩ hu .i64 j (by omega) (by rw [Try.len28]; omega), Try.len28, Try.elem28]
  have e1 : 20 - j = k + 1 := by omega
  have e2 : ¬ 20 = j := by omega
  simp [sizeOf, typeInfo, hi, hz1, slicedAt, Addr.add, e1, e2, go_sem]
  omega

theorem dec_any (u : Nat) (hu : u ≤ 18446744073709551615) (w : World) :
    Calls Try.prog 10 #[.int .u64 (u : Int)] w fun e w' => ∃ k : Nat, 1 ≤ k ∧ k ≤ 20 ∧ u < 10 ^ k ∧ (k = 20 → maxv < u) ∧ e = .returned (.string ⟨(digs k u).toArray⟩) ∧ Below w.heap.size w w' := by
  go_enter Try.func10, Try.ntmps10
  go_wp2
  go_loopw [4, 5, 6] (fun i v n wr => ∃ k j x : Nat, j + 1 + k = 20 ∧ i = .int .i64 ((j : Int) + 1) ∧ v = .int .u64 x ∧ n = .int .i64 k ∧ x = u / 10 ^ k ∧ (0 < k → 1 ≤ x) ∧ IsBuf wr w.heap.size k u ∧ Below w.heap.size w wr) (fun _ _ n _ => 20 - (intOf n).toNat)
  case atStart => exact ⟨0, 19, u, rfl, rfl, rfl, rfl, by simp, fun hx => by omega, heap_alloc_new w _, (Below.refl _ _).alloc (Nat.le_refl _) _⟩
  case round =>
    obtain ⟨k, j, x, hjk, rfl, rfl, rfl, hx, hpos, hbuf, hbel⟩ := hrel
    have HPOS := hid hpos
    clear hpos
    have hk : k ≤ 19 := by omega
    have hj : j ≤ 19 := by omega
    have hj19 : 19 - k = j := by omega
    have hxu : x ≤ u := by rw [hx]; exact Nat.div_le_self _ _
    obtain ⟨v0, hv0⟩ := hbuf.cell (by omega) j (by omega)
    have hf0 := hbuf.frozen j
    have hset := hbuf.set (by omega)
    rw [hj19, ← hx, show ((48 + x % 10 : Nat) : Int) = 48 + (x : Int) % 10 by omega] at hset
    have HSET := hid hset
    have HX := hid hx
    have HJK := hid hjk
    have HBEL := hid hbel
    clear hjk hx hbuf hbel hset hj19
    by_cases hz : x / 10 = 0
    · have hz1 : (((x : Int) / 10) == 0) = true := by simp; omega
      have hsl := slice_buf w.heap.size j k (by have := HJK.out; omega)
      have hcv : (convert 29 9 (.slice (some ⟨w.heap.size, j, none⟩) (k + 1) (k + 1))).run Try.prog (wr.setCell ⟨w.heap.size, j, none⟩ (.int .u8 (48 + (x : Int) % 10))) = .ok (.string ⟨(digs (k + 1) u).toArray⟩) (wr.setCell ⟨w.heap.size, j, none⟩ (.int .u8 (48 + (x : Int) % 10))) := by
        have h := run_convert_bytes_back (P := Try.prog) (wr.setCell ⟨w.heap.size, j, none⟩ (.int .u8 (48 + (x : Int) % 10))) 29 9 5 ⟨w.heap.size, j, none⟩ (k + 1) (digs (k + 1) u) Try.underlying29 Try.underlying5 Try.underlying9 (fun i hi => by
          have := HSET.out.tail i hi
          rw [show 20 - (k + 1) = j by have := HJK.out; omega] at this
          exact this)
        rw [digs_len] at h
        exact h
      have HU : Hid (u < 10 ^ (k + 1)) := by
        have := HX.out
        show _ < _
        rw [Nat.pow_succ]
        have h2 : u / 10 ^ k < 10 := by omega
        have := (Nat.div_lt_iff_lt_mul (Nat.pow_pos (n := k) (show 0 < 10 by omega))).1 h2
        rw [Nat.mul_comm]
        exact this
      have HT : Hid (k + 1 = 20 → maxv < u) := by
        intro h20
        have h19 : k = 19 := by omega
        have h1 := HPOS.out (by omega)
        have h2 := HX.out
        rw [h19] at h2
        have h3 : 10 ^ 19 ≤ u := by
          by_cases hlt : u < 10 ^ 19
          · rw [Nat.div_eq_of_lt hlt] at h2
            omega
          · omega
        have h4 : maxv < 10 ^ 19 := by decide +kernel
        omega
      go_wp2
      go_ret
      exact ⟨k + 1, by omega, by omega, HU.out, HT.out, rfl, HBEL.out.setCell (Nat.le_refl _) _⟩
    · have hz1 : (((x : Int) / 10) == 0) = false := by rw [beq_eq_false_iff_ne]; omega
      have HN : Hid (x / 10 = u / 10 ^ (k + 1) ∧ 1 ≤ j) := by
        have := HX.out
        refine ⟨by rw [this, Nat.pow_succ, Nat.div_div_eq_div_mul], ?_⟩
        by_cases hj0 : j = 0
        · exfalso
          have h19 : k = 19 := by have := HJK.out; omega
          subst h19
          have h3 : u / 10 ^ 19 / 10 = 0 := by
            rw [Nat.div_div_eq_div_mul]
            exact Nat.div_eq_of_lt (by have : 18446744073709551615 < 10 ^ 19 * 10 := by decide +kernel
                                       omega)
          rw [← this] at h3
          exact hz h3
        · omega
      go_wp2
      go_roundw
      case rel => exact ⟨k + 1, j - 1, x / 10, by have := HJK.out; have := HN.out.2; omega, by have := HN.out.2; go_num, by go_num, by go_num, HN.out.1, fun _ => by omega, HSET.out, HBEL.out.setCell (Nat.le_refl _) _⟩
      case measure => simp [intOf]; omega

theorem accept_law (k u : Nat) (h1 : 1 ≤ k) (h2 : k ≤ 20) (h3 : u < 10 ^ k) (h4 : k = 20 → maxv < u) : okB (digs k u) = decide (u ≤ maxv) := by
  have ev : val (digs k u) = u := by rw [digs_val, Nat.mod_eq_of_lt h3]
  by_cases h20 : k = 20
  · have := h4 h20
    subst h20
    have e : decide (u ≤ maxv) = false := by simpa using this
    rw [e]
    simp [okB, digs_len]
  · have e1 : decide (1 ≤ k) = true := by simpa using h1
    have e2 : decide (k ≤ 19) = true := by simp; omega
    simp only [okB, digs_len, digs_all, ev, e1, e2, Bool.true_and]

theorem accept_walk (a0 : Int) (w0 : (Lit.int .u64 a0).wf = true) (w : World) :
    Calls Try.prog 4 #[.int .u64 a0] w fun e w' => e = .returned (.bool true) ∧ Below w.heap.size w w' := by
  obtain ⟨h0, h1⟩ := bounds_u64 w0
  obtain ⟨u, rfl⟩ : ∃ u : Nat, a0 = u := ⟨a0.toNat, by omega⟩
  have hu : u ≤ 18446744073709551615 := by omega
  clear w0
  go_enter Try.func4, Try.ntmps4
  go_wp2_with fail
  refine (dec_any u hu w).mono ?_
  rintro e w1 ⟨k, k1, k2, k3, k4, rfl, b1⟩
  have L := hid (accept_law k u k1 k2 k3 k4)
  have B1 := hid b1
  have S : Hid ((⟨(digs k u).toArray⟩ : ByteArray).size ≤ maxLen) := by
    have e : (⟨(digs k u).toArray⟩ : ByteArray).size = k := by
      show (digs k u).toArray.size = k
      simp [digs_len]
    show _ ≤ _
    rw [e]
    unfold maxLen
    omega
  clear b1 k3 k4
  go_wp2_with fail
  refine (zzproj_any _ w1 S.out).mono ?_
  rintro e w2 ⟨rfl, b2⟩
  have e1 : okB (⟨(digs k u).toArray⟩ : ByteArray).data.toList = decide (u ≤ maxv) := L.out
  have B2 := hid b2
  clear b2
  go_wp2
  go_ret
  refine ⟨ret_bool ?_, B1.out.trans (B2.out.mono B1.out.size)⟩
  rw [beq_iff_eq, decide_eq_decide]
  unfold maxv
  omega
end Go.Proofs.Qxb6603129a

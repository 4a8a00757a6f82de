import Derived.Test.Qxb6602759aOpenClose
namespace Go.Proofs.Qxb6602759a
open Go.ChangeShapes Go.WideShapes Go.ChangeAt Go.RowKit

theorem oc_big (a0 : Option Addr) (l0 c0 : Nat) (off nx : Int) (a3 : Option Addr) (l3 c3 : Nat) (m : ByteArray) (a5 : Option Addr) (l5 c5 : Nat) (op : Int) (w : World)
    (h0 : l0 ≤ maxLen) (h3 : l3 ≤ maxLen) (h4 : m.size ≤ maxLen) (h5 : l5 ≤ maxLen)
    (hb : 262144 < l0 ∨ (l0 ≤ 262144 ∧ 262144 < l3) ∨ (l0 ≤ 262144 ∧ l3 ≤ 262144 ∧ 262144 < m.size) ∨ (l0 ≤ 262144 ∧ l3 ≤ 262144 ∧ m.size ≤ 262144 ∧ 262144 < l5)) :
    Calls Try.prog 7 #[.slice a0 l0 c0, .int .i64 off, .int .u8 nx, .slice a3 l3 c3, .string m, .slice a5 l5 c5, .int .u8 op] w fun e w' => e = .returned (.bool true) ∧ Below w.heap.size w w' := by
  have H0 := hid h0
  have H3 := hid h3
  have H4 := hid h4
  have H5 := hid h5
  unfold maxLen at h0 h3 h4 h5
  rcases hb with hb | ⟨hb0, hb⟩ | ⟨hb0, hb3, hb⟩ | ⟨hb0, hb3, hb4, hb⟩
  all_goals
    go_enter Try.func7, Try.ntmps7
    go_wp2_with fail
    refine (zzOC_any a0 l0 c0 off nx a3 l3 c3 m a5 l5 c5 op w H0.out H3.out H4.out H5.out).mono ?_
    rintro e w' ⟨b, rfl, rfl⟩
    cases b
    all_goals
      go_wp2
      go_ret
      exact ⟨rfl, Below.refl _ _⟩

theorem oc_other (a0 : Option Addr) (l0 c0 : Nat) (off nx : Int) (a3 : Option Addr) (l3 c3 : Nat) (m : ByteArray) (a5 : Option Addr) (l5 c5 : Nat) (op : Int) (w : World)
    (h0 : l0 ≤ 262144) (h3 : l3 ≤ 262144) (h4 : m.size ≤ 262144) (h5 : l5 ≤ 262144) (h1 : (op != 123) = true) (h2 : (op != 91) = true) :
    Calls Try.prog 7 #[.slice a0 l0 c0, .int .i64 off, .int .u8 nx, .slice a3 l3 c3, .string m, .slice a5 l5 c5, .int .u8 op] w fun e w' => e = .returned (.bool true) ∧ Below w.heap.size w w' := by
  go_enter Try.func7, Try.ntmps7
  go_wp2_with fail
  refine (zzOC_true a0 l0 c0 off nx a3 l3 c3 m a5 l5 c5 op w h0 h3 h4 h5).mono ?_
  rintro e w' ⟨rfl, rfl⟩
  go_wp2
  go_ret
  exact ⟨rfl, Below.refl _ _⟩

theorem oc_brace (a0 : Option Addr) (l0 c0 : Nat) (off nx : Int) (a3 : Option Addr) (l3 c3 : Nat) (m : ByteArray) (a5 : Option Addr) (l5 c5 : Nat) (z0 z3 z5 : List Int) (w : World)
    (h0 : l0 ≤ 262144) (h3 : l3 ≤ 262144) (h4 : m.size ≤ 262144) (h5 : l5 ≤ 262144)
    (r0 : Rd w a0 l0 z0) (r3 : Rd w a3 l3 z3) (r5 : Rd w a5 l5 z5) (q0 : a0 = none → c0 = 0) (q3 : a3 = none → c3 = 0) (q5 : a5 = none → c5 = 0) :
    Calls Try.prog 7 #[.slice a0 l0 c0, .int .i64 off, .int .u8 nx, .slice a3 l3 c3, .string m, .slice a5 l5 c5, .int .u8 123] w fun e w' => e = .returned (.bool true) ∧ Below w.heap.size w w' := by
  have R0 := hid r0
  have R3 := hid r3
  have R5 := hid r5
  have Q0 := hid q0
  have Q3 := hid q3
  have Q5 := hid q5
  clear r0 r3 r5 q0 q3 q5
  have hoff := oc_off off
  have hz : (((l3 : Int) == 0) = true ∧ nextv l3 = 6) ∨ (((l3 : Int) == 0) = false ∧ nextv l3 = 5) := by
    by_cases e : l3 = 0
    · exact .inl ⟨by simp [e], by simp [nextv, e]⟩
    · exact .inr ⟨by simp; omega, by simp [nextv, e]⟩
  have HZ := hid hz
  clear hz
  go_enter Try.func7, Try.ntmps7
  go_wp2_with fail
  refine (zzOC_true a0 l0 c0 off nx a3 l3 c3 m a5 l5 c5 123 w h0 h3 h4 h5).mono ?_
  rintro e w' ⟨rfl, rfl⟩
  go_wp2_with fail
  refine (clone_any a0 l0 c0 z0 w R0.out Q0.out (by omega)).mono ?_
  rintro e w1 ⟨b0, rfl, -, o1, b1⟩
  have O1 := hid o1
  have B1 := hid b1
  clear o1 b1
  go_wp2_with fail
  refine (clone_any a3 l3 c3 z3 w1 (R3.out.below B1.out) Q3.out (by omega)).mono ?_
  rintro e w2 ⟨b3, rfl, -, o2, b2⟩
  have O2 := hid o2
  have B2 := hid b2
  clear o2 b2
  go_wp2_with fail
  refine (clone_any a5 l5 c5 z5 w2 ((R5.out.below B1.out).below B2.out) Q5.out (by omega)).mono ?_
  rintro e w3 ⟨b5, rfl, -, o3, b3'⟩
  have O3 := hid o3
  have B3 := hid b3'
  clear o3 b3' R0 R3 R5 Q0 Q3 Q5
  have D0 : Hid (Rd w3 b0 l0 z0) := ((ownsRow_rd O1.out).below B2.out).below B3.out
  go_wp2_with fail
  refine (clone_any b0 l0 l0 z0 w3 D0.out D0.out.2.1 (by omega)).mono ?_
  rintro e w4 ⟨d0, rfl, -, o4, b4⟩
  have O4 := hid o4
  have B4 := hid b4
  clear o4 b4
  have D5 : Hid (Rd w4 b5 l5 z5) := (ownsRow_rd O3.out).below B4.out
  go_wp2_with fail
  refine (clone_any b5 l5 l5 z5 w4 D5.out D5.out.2.1 (by omega)).mono ?_
  rintro e w5 ⟨d5, rfl, -, o5, b5'⟩
  have O5 := hid o5
  have B5 := hid b5'
  clear o5 b5'
  have D3 : Hid (Rd w5 b3 l3 z3) := (((ownsRow_rd O2.out).below B3.out).below B4.out).below B5.out
  go_wp2_with fail
  refine (clone_any b3 l3 l3 z3 w5 D3.out D3.out.2.1 (by omega)).mono ?_
  rintro e w6 ⟨d3, rfl, -, o6, b6⟩
  have O6 := hid o6
  have B6 := hid b6
  clear o6 b6
  rcases HZ.out with ⟨hz1, hz2⟩ | ⟨hz1, hz2⟩
  all_goals
    clear HZ
    have HZ2 := hid hz2
    clear hz2
    go_wp2_with fail
    refine (newdec_any b0 l0 l0 off nx b3 l3 l3 m b5 l5 l5 w6).mono ?_
    rintro e w7 ⟨rfl, hw7⟩
    have D7 : Hid (IsDec w7 w6.heap.size (.slice b0 l0 l0) off nx (.slice b3 l3 l3) m (.slice b5 l5 l5)) := by rw [hw7]; exact heap_alloc_new w6 _
    have O7 : Hid (w7.ownsRow w1.heap.size 5 1 (.slice b3 l3 l3) l3 (bys z3)) := by
      rw [hw7]
      exact (own_below (own_below (own_below (own_below O2.out B3.out) B4.out) B5.out) B6.out).alloc _
    have S7 : Hid (w1.heap.size ≤ w7.heap.size) := by
      rw [hw7]
      have s2 := B2.out.size
      have s3 := B3.out.size
      have s4 := B4.out.size
      have s5 := B5.out.size
      have s6 := B6.out.size
      show _ ≤ (w6.alloc _).heap.size
      simp
      omega
    have HW7 := hid hw7
    clear hw7
    go_wp2_with fail
    refine (zzdelim_brace w6.heap.size w1.heap.size l3 _ off nx _ m _ z3 w7 D7.out O7.out S7.out (by omega)).mono ?_
    rintro e w8 ⟨nv', rfl, d8, o8, k8⟩
    obtain ⟨g, cap, rfl, hcap, -, -, -⟩ := own_form o8 (by omega)
    have D8 := hid d8
    have O8 := hid o8
    have K8 := hid k8
    clear d8 o8 k8
    go_wp2_with fail
    refine (zzdelim_close 125 rfl rfl w6.heap.size g l3 cap _ _ 2 m _ w8 D8.out hcap (by omega)).mono ?_
    rintro e w9 ⟨rfl, d9, k9⟩
    have M : Hid _ := oc_mem (D := w6.heap.size) O1.out B1.out O2.out B2.out O3.out B3.out O4.out B4.out O5.out B5.out O6.out B6.out rfl (HW7.out ▸ K8.out) k9
    have N9 : Hid (Rd w9 (some ⟨g, 0, none⟩) l3 z3) := by
      have p8 : w8.ownsRow w1.heap.size 5 1 (.slice (some ⟨g, 0, none⟩) l3 cap) l3 (bys z3) := by
        have := O8.out
        rw [bys_append] at this
        exact ownsRow_pop (by simpa using O2.out.1) this
      exact ownsRow_rd (p8.kept k9 (.inr (own_ne D8.out p8)))
    have D9 := hid d9
    clear d9 k9
    go_wp2_with fail
    refine (fields_any w6.heap.size b0 l0 l0 _ _ (some ⟨g, 0, none⟩) l3 cap m b5 l5 l5 w9 D9.out).mono ?_
    rintro e w10 ⟨rfl, qa, rfl⟩
    rw [HZ2.out]
    go_wp2_with fail
    refine (same_any b0 d0 l0 l0 l0 z0 _ (by exact ownsRow_rd M.out.1) (by exact ownsRow_rd M.out.2.2.1) (by omega)).mono ?_
    rintro e w11 ⟨rfl, qb, rfl⟩
    go_wp2_with fail
    refine (same_any b5 d5 l5 l5 l5 z5 _ (by exact ownsRow_rd M.out.2.1) (by exact ownsRow_rd M.out.2.2.2.1) (by omega)).mono ?_
    rintro e w12 ⟨rfl, qc, rfl⟩
    go_wp2_with fail
    refine (same_any (some ⟨g, 0, none⟩) d3 l3 cap l3 z3 _ (by exact N9.out) (by exact ownsRow_rd M.out.2.2.2.2.1) (by omega)).mono ?_
    rintro e w13 ⟨rfl, qd, rfl⟩
    go_wp2
    go_ret
    exact ⟨rfl, below_drewN M.out.2.2.2.2.2 _⟩

theorem oc_bracket (a0 : Option Addr) (l0 c0 : Nat) (off nx : Int) (a3 : Option Addr) (l3 c3 : Nat) (m : ByteArray) (a5 : Option Addr) (l5 c5 : Nat) (z0 z3 z5 : List Int) (w : World)
    (h0 : l0 ≤ 262144) (h3 : l3 ≤ 262144) (h4 : m.size ≤ 262144) (h5 : l5 ≤ 262144)
    (r0 : Rd w a0 l0 z0) (r3 : Rd w a3 l3 z3) (r5 : Rd w a5 l5 z5) (q0 : a0 = none → c0 = 0) (q3 : a3 = none → c3 = 0) (q5 : a5 = none → c5 = 0) :
    Calls Try.prog 7 #[.slice a0 l0 c0, .int .i64 off, .int .u8 nx, .slice a3 l3 c3, .string m, .slice a5 l5 c5, .int .u8 91] w fun e w' => e = .returned (.bool true) ∧ Below w.heap.size w w' := by
  have R0 := hid r0
  have R3 := hid r3
  have R5 := hid r5
  have Q0 := hid q0
  have Q3 := hid q3
  have Q5 := hid q5
  clear r0 r3 r5 q0 q3 q5
  have hoff := oc_off off
  have hz : (((l3 : Int) == 0) = true ∧ nextv l3 = 6) ∨ (((l3 : Int) == 0) = false ∧ nextv l3 = 5) := by
    by_cases e : l3 = 0
    · exact .inl ⟨by simp [e], by simp [nextv, e]⟩
    · exact .inr ⟨by simp; omega, by simp [nextv, e]⟩
  have HZ := hid hz
  clear hz
  go_enter Try.func7, Try.ntmps7
  go_wp2_with fail
  refine (zzOC_true a0 l0 c0 off nx a3 l3 c3 m a5 l5 c5 91 w h0 h3 h4 h5).mono ?_
  rintro e w' ⟨rfl, rfl⟩
  go_wp2_with fail
  refine (clone_any a0 l0 c0 z0 w R0.out Q0.out (by omega)).mono ?_
  rintro e w1 ⟨b0, rfl, -, o1, b1⟩
  have O1 := hid o1
  have B1 := hid b1
  clear o1 b1
  go_wp2_with fail
  refine (clone_any a3 l3 c3 z3 w1 (R3.out.below B1.out) Q3.out (by omega)).mono ?_
  rintro e w2 ⟨b3, rfl, -, o2, b2⟩
  have O2 := hid o2
  have B2 := hid b2
  clear o2 b2
  go_wp2_with fail
  refine (clone_any a5 l5 c5 z5 w2 ((R5.out.below B1.out).below B2.out) Q5.out (by omega)).mono ?_
  rintro e w3 ⟨b5, rfl, -, o3, b3'⟩
  have O3 := hid o3
  have B3 := hid b3'
  clear o3 b3' R0 R3 R5 Q0 Q3 Q5
  have D0 : Hid (Rd w3 b0 l0 z0) := ((ownsRow_rd O1.out).below B2.out).below B3.out
  go_wp2_with fail
  refine (clone_any b0 l0 l0 z0 w3 D0.out D0.out.2.1 (by omega)).mono ?_
  rintro e w4 ⟨d0, rfl, -, o4, b4⟩
  have O4 := hid o4
  have B4 := hid b4
  clear o4 b4
  have D5 : Hid (Rd w4 b5 l5 z5) := (ownsRow_rd O3.out).below B4.out
  go_wp2_with fail
  refine (clone_any b5 l5 l5 z5 w4 D5.out D5.out.2.1 (by omega)).mono ?_
  rintro e w5 ⟨d5, rfl, -, o5, b5'⟩
  have O5 := hid o5
  have B5 := hid b5'
  clear o5 b5'
  have D3 : Hid (Rd w5 b3 l3 z3) := (((ownsRow_rd O2.out).below B3.out).below B4.out).below B5.out
  go_wp2_with fail
  refine (clone_any b3 l3 l3 z3 w5 D3.out D3.out.2.1 (by omega)).mono ?_
  rintro e w6 ⟨d3, rfl, -, o6, b6⟩
  have O6 := hid o6
  have B6 := hid b6
  clear o6 b6
  rcases HZ.out with ⟨hz1, hz2⟩ | ⟨hz1, hz2⟩
  all_goals
    clear HZ
    have HZ2 := hid hz2
    clear hz2
    go_wp2_with fail
    refine (newdec_any b0 l0 l0 off nx b3 l3 l3 m b5 l5 l5 w6).mono ?_
    rintro e w7 ⟨rfl, hw7⟩
    have D7 : Hid (IsDec w7 w6.heap.size (.slice b0 l0 l0) off nx (.slice b3 l3 l3) m (.slice b5 l5 l5)) := by rw [hw7]; exact heap_alloc_new w6 _
    have O7 : Hid (w7.ownsRow w1.heap.size 5 1 (.slice b3 l3 l3) l3 (bys z3)) := by
      rw [hw7]
      exact (own_below (own_below (own_below (own_below O2.out B3.out) B4.out) B5.out) B6.out).alloc _
    have S7 : Hid (w1.heap.size ≤ w7.heap.size) := by
      rw [hw7]
      have s2 := B2.out.size
      have s3 := B3.out.size
      have s4 := B4.out.size
      have s5 := B5.out.size
      have s6 := B6.out.size
      show _ ≤ (w6.alloc _).heap.size
      simp
      omega
    have HW7 := hid hw7
    clear hw7
    go_wp2_with fail
    refine (zzdelim_bracket w6.heap.size w1.heap.size l3 _ off nx _ m _ z3 w7 D7.out O7.out S7.out (by omega)).mono ?_
    rintro e w8 ⟨nv', rfl, d8, o8, k8⟩
    obtain ⟨g, cap, rfl, hcap, -, -, -⟩ := own_form o8 (by omega)
    have D8 := hid d8
    have O8 := hid o8
    have K8 := hid k8
    clear d8 o8 k8
    go_wp2_with fail
    refine (zzdelim_close 93 rfl rfl w6.heap.size g l3 cap _ _ 1 m _ w8 D8.out hcap (by omega)).mono ?_
    rintro e w9 ⟨rfl, d9, k9⟩
    have M : Hid _ := oc_mem (D := w6.heap.size) O1.out B1.out O2.out B2.out O3.out B3.out O4.out B4.out O5.out B5.out O6.out B6.out rfl (HW7.out ▸ K8.out) k9
    have N9 : Hid (Rd w9 (some ⟨g, 0, none⟩) l3 z3) := by
      have p8 : w8.ownsRow w1.heap.size 5 1 (.slice (some ⟨g, 0, none⟩) l3 cap) l3 (bys z3) := by
        have := O8.out
        rw [bys_append] at this
        exact ownsRow_pop (by simpa using O2.out.1) this
      exact ownsRow_rd (p8.kept k9 (.inr (own_ne D8.out p8)))
    have D9 := hid d9
    clear d9 k9
    go_wp2_with fail
    refine (fields_any w6.heap.size b0 l0 l0 _ _ (some ⟨g, 0, none⟩) l3 cap m b5 l5 l5 w9 D9.out).mono ?_
    rintro e w10 ⟨rfl, qa, rfl⟩
    rw [HZ2.out]
    go_wp2_with fail
    refine (same_any b0 d0 l0 l0 l0 z0 _ (by exact ownsRow_rd M.out.1) (by exact ownsRow_rd M.out.2.2.1) (by omega)).mono ?_
    rintro e w11 ⟨rfl, qb, rfl⟩
    go_wp2_with fail
    refine (same_any b5 d5 l5 l5 l5 z5 _ (by exact ownsRow_rd M.out.2.1) (by exact ownsRow_rd M.out.2.2.2.1) (by omega)).mono ?_
    rintro e w12 ⟨rfl, qc, rfl⟩
    go_wp2_with fail
    refine (same_any (some ⟨g, 0, none⟩) d3 l3 cap l3 z3 _ (by exact N9.out) (by exact ownsRow_rd M.out.2.2.2.2.1) (by omega)).mono ?_
    rintro e w13 ⟨rfl, qd, rfl⟩
    go_wp2
    go_ret
    exact ⟨rfl, below_drewN M.out.2.2.2.2.2 _⟩


theorem IsRow.len {w : World} {a : Option Addr} {len cap : Nat} {zs : List Int} (h : IsRow .u8 w a len cap zs) : len ≤ maxLen := by
  rcases h with ⟨_, rfl, _⟩ | ⟨x, _, h1, h2, _⟩
  · exact Nat.zero_le _
  · omega

theorem oc_walk (a0 : Option Addr) (len0 cap0 : Nat) (z0 : List Int) (a1 : Int) (a2 : Int) (a3 : Option Addr) (len3 cap3 : Nat) (z3 : List Int) (a4 : ByteArray) (a5 : Option Addr) (len5 cap5 : Nat) (z5 : List Int) (a6 : Int) (w : World) (w0 : IsRow .u8 w a0 len0 cap0 z0) (w3 : IsRow .u8 w a3 len3 cap3 z3) (w4 : a4.size ≤ maxLen) (w5 : IsRow .u8 w a5 len5 cap5 z5) :
    Calls Try.prog 7 #[.slice a0 len0 cap0, .int .i64 a1, .int .u8 a2, .slice a3 len3 cap3, .string a4, .slice a5 len5 cap5, .int .u8 a6] w fun e w' => e = .returned (.bool true) ∧ Below w.heap.size w w' := by
  by_cases hs : len0 ≤ 262144 ∧ len3 ≤ 262144 ∧ a4.size ≤ 262144 ∧ len5 ≤ 262144
  · obtain ⟨h0, h3, h4, h5⟩ := hs
    by_cases e1 : a6 = 123
    · subst e1
      exact oc_brace a0 len0 cap0 a1 a2 a3 len3 cap3 a4 a5 len5 cap5 _ _ _ w h0 h3 h4 h5 w0.rd.1 w3.rd.1 w5.rd.1 w0.rd.2 w3.rd.2 w5.rd.2
    · by_cases e2 : a6 = 91
      · subst e2
        exact oc_bracket a0 len0 cap0 a1 a2 a3 len3 cap3 a4 a5 len5 cap5 _ _ _ w h0 h3 h4 h5 w0.rd.1 w3.rd.1 w5.rd.1 w0.rd.2 w3.rd.2 w5.rd.2
      · exact oc_other a0 len0 cap0 a1 a2 a3 len3 cap3 a4 a5 len5 cap5 a6 w h0 h3 h4 h5 (by simpa using e1) (by simpa using e2)
  · exact oc_big a0 len0 cap0 a1 a2 a3 len3 cap3 a4 a5 len5 cap5 a6 w w0.len w3.len w4 w5.len (by omega)
end Go.Proofs.Qxb6602759a

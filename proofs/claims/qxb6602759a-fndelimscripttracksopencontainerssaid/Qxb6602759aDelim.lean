import Derived.Test.Qxb6602759aTail
import Derived.Deep.QuietTactic
import Derived.BigQuiet
import Derived.WalkSmall
namespace Go.Proofs.Qxb6602759a
open Go.ChangeShapes Go.WideShapes Go.ChangeAt Go.RowKit

/-- The Decoder's block: its six fields. -/
def dcells (dv : Value) (off nx : Int) (nv : Value) (m : ByteArray) (tv : Value) : Array Value := #[dv, .int .i64 off, .int .u8 nx, nv, .string m, tv]
def IsDec (w : World) (D : Nat) (dv : Value) (off nx : Int) (nv : Value) (m : ByteArray) (tv : Value) : Prop :=
  w.heap[D]? = some (.cells #[dv, .int .i64 off, .int .u8 nx, nv, .string m, tv] 39 (0, 0))

theorem IsDec.cells {w : World} {D : Nat} {dv : Value} {off nx : Int} {nv : Value} {m : ByteArray} {tv : Value} (h : IsDec w D dv off nx nv m tv) :
    w.cell? ⟨D, 0, none⟩ = some dv ∧ w.cell? ⟨D, 1, none⟩ = some (.int .i64 off) ∧ w.cell? ⟨D, 2, none⟩ = some (.int .u8 nx) ∧ w.cell? ⟨D, 3, none⟩ = some nv ∧ w.cell? ⟨D, 4, none⟩ = some (.string m) ∧ w.cell? ⟨D, 5, none⟩ = some tv := by
  refine ⟨?_, ?_, ?_, ?_, ?_, ?_⟩ <;> rw [cell_of_row w D _ _ 39 (0, 0) h] <;> rfl
theorem IsDec.frozen {w : World} {D : Nat} {dv : Value} {off nx : Int} {nv : Value} {m : ByteArray} {tv : Value} (h : IsDec w D dv off nx nv m tv) (j : Nat) : w.frozen? ⟨D, j, none⟩ = false :=
  frozen_of_row w D j _ 39 h
theorem IsDec.off {w : World} {D : Nat} {dv : Value} {off nx : Int} {nv : Value} {m : ByteArray} {tv : Value} (h : IsDec w D dv off nx nv m tv) (x : Int) : IsDec (w.setCell ⟨D, 1, none⟩ (.int .i64 x)) D dv x nx nv m tv :=
  heap_setCell_same w D 1 _ 39 _ h
theorem IsDec.nx {w : World} {D : Nat} {dv : Value} {off nx : Int} {nv : Value} {m : ByteArray} {tv : Value} (h : IsDec w D dv off nx nv m tv) (x : Int) : IsDec (w.setCell ⟨D, 2, none⟩ (.int .u8 x)) D dv off x nv m tv :=
  heap_setCell_same w D 2 _ 39 _ h
theorem IsDec.nest {w : World} {D : Nat} {dv : Value} {off nx : Int} {nv : Value} {m : ByteArray} {tv : Value} (h : IsDec w D dv off nx nv m tv) (x : Value) : IsDec (w.setCell ⟨D, 3, none⟩ x) D dv off nx x m tv :=
  heap_setCell_same w D 3 _ 39 _ h

/-- Of all blocks that were there only D and 'row' may have turned. -/
structure Kp (D : Nat) (row : Option Nat) (w w' : World) : Prop where
  os : w'.os = w.os
  tape : w'.tape = w.tape
  output : w'.output = w.output
  size : w.heap.size ≤ w'.heap.size
  block : ∀ k, k < w.heap.size → k ≠ D → some k ≠ row → w'.heap[k]? = w.heap[k]?
theorem Kp.refl (D : Nat) (row : Option Nat) (w : World) : Kp D row w w := ⟨rfl, rfl, rfl, Nat.le_refl _, fun _ _ _ _ => rfl⟩
theorem Kp.set {D : Nat} {row : Option Nat} {w w' : World} (h : Kp D row w w') (j : Nat) (v : Value) : Kp D row w (w'.setCell ⟨D, j, none⟩ v) :=
  ⟨h.os, h.tape, h.output, by simpa [World.setCell] using h.size, fun k hk hd hr => (Below.heap_setCell w' ⟨D, j, none⟩ v k hd).trans (h.block k hk hd hr)⟩
theorem Kp.grown {D : Nat} {row : Option Nat} {w w1 w' : World} (h : Kp D row w w1) (hg : w1.grownBy w' row) : Kp D row w w' :=
  ⟨hg.os.trans h.os, hg.tape.trans h.tape, hg.output.trans h.output, Nat.le_trans h.size hg.size, fun k hk hd hr => (hg.block k (by have := h.size; omega) hr).trans (h.block k hk hd hr)⟩
theorem Kp.alloc {D : Nat} {row : Option Nat} {w w1 : World} (h : Kp D row w w1) (o : Obj) : Kp D row w (w1.alloc o) := h.grown (World.grownBy_alloc w1 o row)
theorem Kp.drewN {D : Nat} {row : Option Nat} {w w1 : World} (h : Kp D row w w1) (n : Nat) : Kp D row w (w1.drewN n) := ⟨h.os, h.tape, h.output, h.size, h.block⟩


theorem own_ne {w : World} {D base n : Nat} {dv : Value} {off nx : Int} {nv v : Value} {m : ByteArray} {tv : Value} {xs : List Value} (h : IsDec w D dv off nx nv m tv) (ho : w.ownsRow base 5 1 v n xs) : v.ownBlock ≠ some D := by
  intro e
  rcases ho.2 with ⟨rfl, _⟩ | ⟨g, cap, cur, rfl, _, hg, _⟩
  · simp [Value.ownBlock] at e
  · simp [Value.ownBlock] at e
    subst e
    rw [IsDec, hg] at h
    simp at h
theorem grown_set (w : World) (D j : Nat) (v : Value) : w.grownBy (w.setCell ⟨D, j, none⟩ v) (some D) :=
  ⟨rfl, rfl, rfl, by simp [World.setCell], fun k _ hn => Below.heap_setCell w ⟨D, j, none⟩ v k (fun e => hn (by simpa using e))⟩
theorem own_set {w : World} {D base n : Nat} {dv : Value} {off nx : Int} {nv v : Value} {m : ByteArray} {tv : Value} {xs : List Value} (h : IsDec w D dv off nx nv m tv) (ho : w.ownsRow base 5 1 v n xs) (j : Nat) (u : Value) :
    (w.setCell ⟨D, j, none⟩ u).ownsRow base 5 1 v n xs := ho.kept (grown_set w D j u) (.inr (own_ne h ho))
theorem size_set (w : World) (D j : Nat) (v : Value) : (w.setCell ⟨D, j, none⟩ v).heap.size = w.heap.size := by simp [World.setCell]
theorem IsDec.lt {w : World} {D : Nat} {dv : Value} {off nx : Int} {nv : Value} {m : ByteArray} {tv : Value} (h : IsDec w D dv off nx nv m tv) : D < w.heap.size := (Array.getElem?_eq_some_iff.1 h).1
theorem IsDec.grown {w w' : World} {D : Nat} {row : Option Nat} {dv : Value} {off nx : Int} {nv : Value} {m : ByteArray} {tv : Value} (h : IsDec w D dv off nx nv m tv) (hg : w.grownBy w' row) (hr : row ≠ some D) : IsDec w' D dv off nx nv m tv :=
  (hg.block D h.lt (fun e => hr e.symm)).trans h
theorem news_one (w : World) (D j : Nat) (v : Value) (u : Value) : ∀ i x, [u][i]? = some x → ((w.setCell ⟨D, j, none⟩ v).alloc (.cells #[u] 5)).cell? ((⟨w.heap.size, 0, none⟩ : Addr).add i) = some x := by
  have h := news_alloc (w.setCell ⟨D, j, none⟩ v) [u]
  rw [size_set] at h
  exact h

theorem delim_brace (D base n : Nat) (dv : Value) (off nx : Int) (nv : Value) (m : ByteArray) (tv : Value) (zs : List Int) (w : World)
    (hD : IsDec w D dv off nx nv m tv) (hown : w.ownsRow base 5 1 nv n (bys zs)) (hb : base ≤ w.heap.size) (hn : n ≤ 1048576) :
    Calls Try.prog 25 #[.pointer (some ⟨D, 0, none⟩), .int .u8 123] w fun e w' => ∃ nv', e = .returned (.tuple #[]) ∧ IsDec w' D dv (wrap64 (off + 1)) 2 nv' m tv ∧
      w'.ownsRow base 5 1 nv' (n + 1) (bys (zs ++ [123])) ∧ Kp D nv.ownBlock w w' := by
  obtain ⟨i0, hi, hz0, hz1, hz2⟩ := info_parts Try.info5
  obtain ⟨k0, k1, k2, k3, k4, k5⟩ := hD.cells
  have f1 := hD.frozen 1
  have f2 := hD.frozen 2
  have f3 := hD.frozen 3
  have HD : Hid (IsDec w D dv off nx nv m tv) := hD
  have H1 : Hid _ := (own_set hD hown 1 (.int .i64 (wrap64 (off + 1)))).alloc (.cells #[.int .u8 123] 5)
  have H2 : Hid _ := news_one w D 1 (.int .i64 (wrap64 (off + 1))) (.int .u8 123)
  have HN : Hid _ := own_ne hD hown
  clear hD hown
  go_enter Try.func25, Try.ntmps25
  go_wp2_with (at_builtin; refine wpList_append_own _ rfl (.tmp 34) (.tmp 36) 24 rfl base 5 i0 (.int .u8 0) 1 1 Try.underlying24 hi hz0 hz1 hz2 rfl (by decide) nv n (bys zs) rfl H1.out ⟨w.heap.size, 0, none⟩ 1 1 [.int .u8 123] rfl rfl H2.out (by simp [Value.oneCell']) (by unfold maxLen; omega) (by omega) (by simp; omega) ?_; intro nv' w1 hown1 hgrow1 hnil; clear hnil; obtain ⟨g, cap, rfl, hcap, hbg, hgs, hcells⟩ := own_form (zs := zs ++ [123]) (by rw [bys_append]; exact hown1) (by omega); clear k0 k1 k2 k3 k4 k5 f1 f2 f3 hcells; have hD1 := (((HD.out).off (wrap64 (off + 1))).grown (World.grownBy_alloc _ (.cells #[.int .u8 123] 5) none) (by simp)).grown hgrow1 HN.out; obtain ⟨k0, k1, k2, k3, k4, k5⟩ := hD1.cells; have f2 := hD1.frozen 2; have f3 := hD1.frozen 3; have HD1 : Hid (IsDec _ _ _ _ _ _ _ _) := hD1; have HO1 : Hid (World.ownsRow _ _ _ _ _ _ _) := hown1; have HG : Hid (World.grownBy _ _ _) := hgrow1; clear hD1 hown1 hgrow1)
  go_end0
  have h1 := HD1.out.nest (.slice (some ⟨g, 0, none⟩) (n + 1) cap)
  refine ⟨_, rfl, h1.nx _, ?_, (((((Kp.refl D nv.ownBlock w).set 1 _).alloc _).grown HG.out).set 3 _).set 2 _⟩
  rw [bys_append]
  exact own_set h1 (own_set HD1.out HO1.out 3 _) 2 _

theorem delim_bracket (D base n : Nat) (dv : Value) (off nx : Int) (nv : Value) (m : ByteArray) (tv : Value) (zs : List Int) (w : World)
    (hD : IsDec w D dv off nx nv m tv) (hown : w.ownsRow base 5 1 nv n (bys zs)) (hb : base ≤ w.heap.size) (hn : n ≤ 1048576) :
    Calls Try.prog 25 #[.pointer (some ⟨D, 0, none⟩), .int .u8 91] w fun e w' => ∃ nv', e = .returned (.tuple #[]) ∧ IsDec w' D dv (wrap64 (off + 1)) 1 nv' m tv ∧
      w'.ownsRow base 5 1 nv' (n + 1) (bys (zs ++ [91])) ∧ Kp D nv.ownBlock w w' := by
  obtain ⟨i0, hi, hz0, hz1, hz2⟩ := info_parts Try.info5
  obtain ⟨k0, k1, k2, k3, k4, k5⟩ := hD.cells
  have f1 := hD.frozen 1
  have f2 := hD.frozen 2
  have f3 := hD.frozen 3
  have HD : Hid (IsDec w D dv off nx nv m tv) := hD
  have H1 : Hid _ := (own_set hD hown 1 (.int .i64 (wrap64 (off + 1)))).alloc (.cells #[.int .u8 91] 5)
  have H2 : Hid _ := news_one w D 1 (.int .i64 (wrap64 (off + 1))) (.int .u8 91)
  have HN : Hid _ := own_ne hD hown
  clear hD hown
  go_enter Try.func25, Try.ntmps25
  go_wp2_with (at_builtin; refine wpList_append_own _ rfl (.tmp 49) (.tmp 51) 24 rfl base 5 i0 (.int .u8 0) 1 1 Try.underlying24 hi hz0 hz1 hz2 rfl (by decide) nv n (bys zs) rfl H1.out ⟨w.heap.size, 0, none⟩ 1 1 [.int .u8 91] rfl rfl H2.out (by simp [Value.oneCell']) (by unfold maxLen; omega) (by omega) (by simp; omega) ?_; intro nv' w1 hown1 hgrow1 hnil; clear hnil; obtain ⟨g, cap, rfl, hcap, hbg, hgs, hcells⟩ := own_form (zs := zs ++ [91]) (by rw [bys_append]; exact hown1) (by omega); clear k0 k1 k2 k3 k4 k5 f1 f2 f3 hcells; have hD1 := (((HD.out).off (wrap64 (off + 1))).grown (World.grownBy_alloc _ (.cells #[.int .u8 91] 5) none) (by simp)).grown hgrow1 HN.out; obtain ⟨k0, k1, k2, k3, k4, k5⟩ := hD1.cells; have f2 := hD1.frozen 2; have f3 := hD1.frozen 3; have HD1 : Hid (IsDec _ _ _ _ _ _ _ _) := hD1; have HO1 : Hid (World.ownsRow _ _ _ _ _ _ _) := hown1; have HG : Hid (World.grownBy _ _ _) := hgrow1; clear hD1 hown1 hgrow1)
  go_end0
  have h1 := HD1.out.nest (.slice (some ⟨g, 0, none⟩) (n + 1) cap)
  refine ⟨_, rfl, h1.nx _, ?_, (((((Kp.refl D nv.ownBlock w).set 1 _).alloc _).grown HG.out).set 3 _).set 2 _⟩
  rw [bys_append]
  exact own_set h1 (own_set HD1.out HO1.out 3 _) 2 _


/-- What may follow a value that has been read whole, n containers being open. -/
def nextv (n : Nat) : Int := if n = 0 then 6 else 5
theorem grown_trans {w w1 w2 : World} {row : Option Nat} (h1 : w.grownBy w1 row) (h2 : w1.grownBy w2 row) : w.grownBy w2 row :=
  ⟨h2.os.trans h1.os, h2.tape.trans h1.tape, h2.output.trans h1.output, Nat.le_trans h1.size h2.size, fun k hk hr => (h2.block k (by have := h1.size; omega) hr).trans (h1.block k hk hr)⟩
theorem grown_drewN {w w1 : World} {row : Option Nat} (h1 : w.grownBy w1 row) (n : Nat) : w.grownBy (w1.drewN n) row := ⟨h1.os, h1.tape, h1.output, h1.size, h1.block⟩
theorem grown_drew {w w1 : World} {row : Option Nat} (h1 : w.grownBy w1 row) : w.grownBy w1.drew row := ⟨h1.os, h1.tape, h1.output, h1.size, h1.block⟩

theorem done_any (D : Nat) (dv : Value) (off nx : Int) (a : Option Addr) (n cap : Nat) (m : ByteArray) (tv : Value) (w : World) (hD : IsDec w D dv off nx (.slice a n cap) m tv) :
    Calls Try.prog 26 #[.pointer (some ⟨D, 0, none⟩)] w fun e w' => e = .returned (.tuple #[]) ∧ IsDec w' D dv off (nextv n) (.slice a n cap) m tv ∧ w.grownBy w' (some D) := by
  obtain ⟨k0, k1, k2, k3, k4, k5⟩ := hD.cells
  have f2 := hD.frozen 2
  have HD : Hid (IsDec w D dv off nx (.slice a n cap) m tv) := hD
  clear hD
  by_cases hn : n = 0
  · subst hn
    go_enter Try.func26, Try.ntmps26
    go_wp2
    go_end0
    exact ⟨rfl, (HD.out.nx 5).nx 6, grown_trans (grown_set _ _ _ _) (grown_set _ _ _ _)⟩
  · have hn1 : ((n : Int) == 0) = false := by simp; omega
    have hx : nextv n = 5 := by unfold nextv; rw [if_neg hn]
    rw [hx]
    clear hx
    go_enter Try.func26, Try.ntmps26
    go_wp2
    go_end0
    exact ⟨rfl, HD.out.nx 5, grown_set _ _ _ _⟩

theorem delim_close (c : Int) (c1 : (c == 123) = false) (c2 : (c == 91) = false) (D g n cap : Nat) (dv : Value) (off nx : Int) (m : ByteArray) (tv : Value) (w : World)
    (hD : IsDec w D dv off nx (.slice (some ⟨g, 0, none⟩) (n + 1) cap) m tv) (hcap : n + 1 ≤ cap) (hn : n ≤ 1048576) :
    Calls Try.prog 25 #[.pointer (some ⟨D, 0, none⟩), .int .u8 c] w fun e w' => e = .returned (.tuple #[]) ∧ IsDec w' D dv (wrap64 (off + 1)) (nextv n) (.slice (some ⟨g, 0, none⟩) n cap) m tv ∧ w.grownBy w' (some D) := by
  obtain ⟨k0, k1, k2, k3, k4, k5⟩ := hD.cells
  have f1 := hD.frozen 1
  have f3 := hD.frozen 3
  have HD : Hid (IsDec w D dv off nx (.slice (some ⟨g, 0, none⟩) (n + 1) cap) m tv) := hD
  clear hD
  go_enter Try.func25, Try.ntmps25
  go_wp2
  go_region
  all_goals
    go_wp2_with fail
    refine (done_any D dv (wrap64 (off + 1)) nx (some ⟨g, 0, none⟩) n cap m tv _ (by exact (HD.out.off (wrap64 (off + 1))).nest (.slice (some ⟨g, 0, none⟩) n cap))).mono ?_
    rintro e w' ⟨rfl, hd, hg⟩
    have hg2 : w.grownBy w' (some D) := grown_trans (grown_drew (grown_trans (grown_set w D 1 _) (grown_set _ D 3 _))) hg
    have HG : Hid _ := hg2
    have HE : Hid (IsDec _ _ _ _ _ _ _ _) := hd
    clear hg hg2 hd
    go_wp2
    go_end0
    exact ⟨rfl, HE.out, HG.out⟩

theorem zzdelim_brace (D base n : Nat) (dv : Value) (off nx : Int) (nv : Value) (m : ByteArray) (tv : Value) (zs : List Int) (w : World)
    (hD : IsDec w D dv off nx nv m tv) (hown : w.ownsRow base 5 1 nv n (bys zs)) (hb : base ≤ w.heap.size) (hn : n ≤ 1048576) :
    Calls Try.prog 19 #[.pointer (some ⟨D, 0, none⟩), .int .u8 123] w fun e w' => ∃ nv', e = .returned (.tuple #[]) ∧ IsDec w' D dv (wrap64 (off + 1)) 2 nv' m tv ∧
      w'.ownsRow base 5 1 nv' (n + 1) (bys (zs ++ [123])) ∧ Kp D nv.ownBlock w w' := by
  have HD : Hid (IsDec w D dv off nx nv m tv) := hD
  have HO : Hid (w.ownsRow base 5 1 nv n (bys zs)) := hown
  clear hD hown
  go_enter Try.func19, Try.ntmps19
  go_wp2_with fail
  refine (delim_brace D base n dv off nx nv m tv zs w HD.out HO.out hb hn).mono ?_
  rintro e w' ⟨nv', rfl, h1, h2, h3⟩
  have H1 : Hid _ := h1
  have H2 : Hid _ := h2
  have H3 : Hid _ := h3
  clear h1 h2 h3
  go_wp2
  go_end0
  exact ⟨nv', rfl, H1.out, H2.out, H3.out⟩

theorem zzdelim_bracket (D base n : Nat) (dv : Value) (off nx : Int) (nv : Value) (m : ByteArray) (tv : Value) (zs : List Int) (w : World)
    (hD : IsDec w D dv off nx nv m tv) (hown : w.ownsRow base 5 1 nv n (bys zs)) (hb : base ≤ w.heap.size) (hn : n ≤ 1048576) :
    Calls Try.prog 19 #[.pointer (some ⟨D, 0, none⟩), .int .u8 91] w fun e w' => ∃ nv', e = .returned (.tuple #[]) ∧ IsDec w' D dv (wrap64 (off + 1)) 1 nv' m tv ∧
      w'.ownsRow base 5 1 nv' (n + 1) (bys (zs ++ [91])) ∧ Kp D nv.ownBlock w w' := by
  have HD : Hid (IsDec w D dv off nx nv m tv) := hD
  have HO : Hid (w.ownsRow base 5 1 nv n (bys zs)) := hown
  clear hD hown
  go_enter Try.func19, Try.ntmps19
  go_wp2_with fail
  refine (delim_bracket D base n dv off nx nv m tv zs w HD.out HO.out hb hn).mono ?_
  rintro e w' ⟨nv', rfl, h1, h2, h3⟩
  have H1 : Hid _ := h1
  have H2 : Hid _ := h2
  have H3 : Hid _ := h3
  clear h1 h2 h3
  go_wp2
  go_end0
  exact ⟨nv', rfl, H1.out, H2.out, H3.out⟩

theorem zzdelim_close (c : Int) (c1 : (c == 123) = false) (c2 : (c == 91) = false) (D g n cap : Nat) (dv : Value) (off nx : Int) (m : ByteArray) (tv : Value) (w : World)
    (hD : IsDec w D dv off nx (.slice (some ⟨g, 0, none⟩) (n + 1) cap) m tv) (hcap : n + 1 ≤ cap) (hn : n ≤ 1048576) :
    Calls Try.prog 19 #[.pointer (some ⟨D, 0, none⟩), .int .u8 c] w fun e w' => e = .returned (.tuple #[]) ∧ IsDec w' D dv (wrap64 (off + 1)) (nextv n) (.slice (some ⟨g, 0, none⟩) n cap) m tv ∧ w.grownBy w' (some D) := by
  have HD : Hid (IsDec w D dv off nx (.slice (some ⟨g, 0, none⟩) (n + 1) cap) m tv) := hD
  clear hD
  go_enter Try.func19, Try.ntmps19
  go_wp2_with fail
  refine (delim_close c c1 c2 D g n cap dv off nx m tv w HD.out hcap hn).mono ?_
  rintro e w' ⟨rfl, h1, h2⟩
  have H1 : Hid _ := h1
  have H2 : Hid _ := h2
  clear h1 h2
  go_wp2
  go_end0
  exact ⟨rfl, H1.out, H2.out⟩

theorem newdec_any (a0 : Option Addr) (l0 c0 : Nat) (off nx : Int) (a3 : Option Addr) (l3 c3 : Nat) (m : ByteArray) (a5 : Option Addr) (l5 c5 : Nat) (w : World) :
    Calls Try.prog 18 #[.slice a0 l0 c0, .int .i64 off, .int .u8 nx, .slice a3 l3 c3, .string m, .slice a5 l5 c5] w fun e w' => e = .returned (.pointer (some ⟨w.heap.size, 0, none⟩)) ∧
      w' = w.alloc (.cells #[.slice a0 l0 c0, .int .i64 off, .int .u8 nx, .slice a3 l3 c3, .string m, .slice a5 l5 c5] 39) := by
  go_enter Try.func18, Try.ntmps18
  go_wp2
  go_ret
  exact ⟨rfl, rfl⟩

theorem fields_any (D : Nat) (a0 : Option Addr) (l0 c0 : Nat) (off nx : Int) (a3 : Option Addr) (l3 c3 : Nat) (m : ByteArray) (a5 : Option Addr) (l5 c5 : Nat) (w : World)
    (hD : IsDec w D (.slice a0 l0 c0) off nx (.slice a3 l3 c3) m (.slice a5 l5 c5)) :
    Calls Try.prog 20 #[.pointer (some ⟨D, 0, none⟩)] w fun e w' => e = .returned (.tuple #[.slice a0 l0 c0, .int .i64 off, .int .u8 nx, .slice a3 l3 c3, .string m, .slice a5 l5 c5]) ∧ ∃ q, w' = w.drewN q := by
  obtain ⟨k0, k1, k2, k3, k4, k5⟩ := hD.cells
  clear hD
  go_enter Try.func20, Try.ntmps20
  go_wp2
  go_quiet (fail)
  go_wp2
  exact bodyPost_ret (v := .tuple #[.slice a0 l0 c0, .int .i64 off, .int .u8 nx, .slice a3 l3 c3, .string m, .slice a5 l5 c5]) (by simp [results, Try.results20, go_sem]) rfl ⟨rfl, nq, rfl⟩
end Go.Proofs.Qxb6602759a

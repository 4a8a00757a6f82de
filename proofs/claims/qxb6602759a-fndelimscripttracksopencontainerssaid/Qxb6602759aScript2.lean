import Derived.Test.Qxb6602759aScript
namespace Go.Proofs.Qxb6602759a
open Go.ChangeShapes Go.WideShapes Go.ChangeAt Go.RowKit

theorem zzScript (a : Option Addr) (n cap : Nat) (w : World) (h : n ≤ 1048576) :
    Calls Try.prog 22 #[.slice a n cap] w fun e w' => e = .returned (.bool true) ∧ w = w' := by
  go_enter Try.func22, Try.ntmps22
  go_wp2
  go_ret
  exact ⟨rfl, rfl⟩

theorem script_big (a : Option Addr) (n cap : Nat) (w : World) (hm : n ≤ maxLen) (h : 65536 < n) :
    Calls Try.prog 8 #[.slice a n cap] w fun e w' => e = .returned (.bool true) ∧ Below w.heap.size w w' := by
  unfold maxLen at hm
  go_enter Try.func8, Try.ntmps8
  go_wp2
  all_goals
    go_ret
    exact ⟨rfl, Below.refl _ _⟩

theorem set_getD (l : List Int) (i : Nat) (c : Int) (h : i < l.length) : (l.set i c).getD i 0 = c := by
  simp [List.getD_eq_getElem?_getD, h]

theorem Inv.levRd {w w1 w2 wr : World} {b0 : Option Addr} {n : Nat} {zs : List Int} {m : ByteArray} {off nx : Int} {nv : Value} {S lv : List Int} (h : Inv w w1 w2 wr b0 n zs m off nx nv S lv) (hp : lv.take S.length = S) (hS : S.length ≤ n) :
    Rd wr (some ⟨w1.heap.size, 0, none⟩) S.length S := by
  refine ⟨rfl, fun hx => by simp at hx, fun x hx i hi => ?_⟩
  cases hx
  have ea : (⟨w1.heap.size, 0, none⟩ : Addr).add i = ⟨w1.heap.size, i, none⟩ := by unfold Addr.add; split <;> simp_all
  rw [ea, ← lev_get hp i hi]
  exact h.levCell i (by omega)

set_option maxRecDepth 20000 in
set_option maxHeartbeats 1000000 in
theorem script_small (a0 : Option Addr) (n cap0 : Nat) (zs : List Int) (w : World) (hr : Rd w a0 n zs) (hc : a0 = none → cap0 = 0) (h : n ≤ 65536) :
    Calls Try.prog 8 #[.slice a0 n cap0] w fun e w' => e = .returned (.bool true) ∧ Below w.heap.size w w' := by
  have HR := hid hr
  have HC := hid hc
  obtain ⟨i0, hi, hz0, hz1, hz2⟩ := info_parts Try.info5
  clear hr hc
  go_enter Try.func8, Try.ntmps8
  go_wp2_with fail
  refine (zzScript a0 n cap0 w (by omega)).mono ?_
  rintro e w' ⟨rfl, rfl⟩
  go_wp2_with fail
  go_loop [3, 4] (fun d i => ∃ k : Nat, k ≤ n ∧ i = .int .i64 k ∧ d = .int .i64 ((stkAt zs k).length : Nat) ∧ okTo zs k) (fun _ i => n - (intOf i).toNat)
  case atStart => exact ⟨0, Nat.zero_le _, rfl, by rw [stkAt_zero]; rfl, fun i hi => by omega⟩
  case round =>
    obtain ⟨k, hk, rfl, rfl, hok⟩ := hrel
    have OK := hid hok
    clear hok
    by_cases hlt : k < n
    · cases a0 with
      | none => have := HR.out.2.1 rfl; omega
      | some x =>
        have hzl : k < zs.length := by rw [HR.out.1]; exact hlt
        have dk := HR.out.2.2 x rfl k hlt
        have hl := stkAt_len zs k (by omega)
        generalize hz : zs.getD k 0 = z at dk
        have HZ := hid hz
        clear hz
        generalize hd : (stkAt zs k).length = d at hl
        have HD := hid hd
        clear hd
        by_cases e1 : z = 123 ∨ z = 91
        · have R : Hid ((stkAt zs (k + 1)).length = d + 1 ∧ okTo zs (k + 1)) := by
            refine ⟨?_, okTo_succ OK.out (.inl (by rw [HZ.out]; exact e1))⟩
            rw [stkAt_open zs k hzl z HZ.out e1]
            simp [HD.out]
          rcases e1 with rfl | rfl
          all_goals
            go_wp2
            go_round
            case rel => exact ⟨k + 1, by omega, by go_num, by rw [R.out.1]; go_num, R.out.2⟩
            case measure => simp [intOf]; omega
        · by_cases e2 : z = 125 ∨ z = 93
          · cases d with
            | zero =>
              rcases e2 with rfl | rfl
              all_goals
                go_wp2
                go_ret
                exact ⟨rfl, Below.refl _ _⟩
            | succ d =>
              have R : Hid ((stkAt zs (k + 1)).length = d ∧ okTo zs (k + 1)) := by
                refine ⟨?_, okTo_succ OK.out (.inr ⟨by rw [HZ.out]; exact e2, fun e => by have := HD.out; rw [e] at this; simp at this⟩)⟩
                rw [stkAt_close zs k hzl z HZ.out e2]
                simp [HD.out]
              rcases e2 with rfl | rfl
              all_goals
                go_wp2
                go_round
                case rel => exact ⟨k + 1, by omega, by go_num, by rw [R.out.1], R.out.2⟩
                case measure => simp [intOf]; omega
          · have f1 : (z == 123) = false := by simp; omega
            have f2 : (z == 91) = false := by simp; omega
            have f3 : (z == 125) = false := by simp; omega
            have f4 : (z == 93) = false := by simp; omega
            go_wp2
            go_ret
            exact ⟨rfl, Below.refl _ _⟩
    · obtain rfl : k = n := by omega
      go_wp2_with fail
      refine (clone_any a0 k cap0 zs w HR.out HC.out (by omega)).mono ?_
      rintro e w1 ⟨b0, rfl, -, o1, b1⟩
      have O1 := hid o1
      have B1 := hid b1
      clear o1 b1
      go_wp2_with (at_make; refine wpList_make_full _ rfl (.tmp 60) (.tmp 60) 24 rfl w1.heap.size 5 i0 (.int .u8 0) 1 Try.underlying24 hi hz0 hz1 .i64 .i64 k k k rfl rfl rfl rfl (by rw [hz2]; omega) (by unfold maxLen; omega) (Nat.le_refl _) ?_; intro w2 hown hgrow)
      refine (newdec_any b0 k k 0 0 none 0 0 _ none 0 0 w2).mono ?_
      rintro e w3 ⟨rfl, hw3⟩
      have I0 : Hid (Inv w w1 w2 w3 b0 k zs { data := #[] } 0 0 (.slice none 0 0) [] (List.replicate k 0)) := by
        have hb12 : Below w1.heap.size w1 w2 := (Below.refl _ _).grown hgrow (Nat.le_refl _) (fun _ hx => by cases hx)
        have s1 := B1.out.size
        have hlev : w2.ownsRow w1.heap.size 5 1 (.slice (some ⟨w1.heap.size, 0, none⟩) k k) k (bys (List.replicate k 0)) := by
          simpa [bys, Value.cells, toList_madeCells_one] using hown
        have s2 : w1.heap.size < w2.heap.size := (hlev.lt _ rfl).2
        have s3 : w3.heap.size = w2.heap.size + 1 := by rw [hw3]; exact World.size_alloc _ _
        refine ⟨?_, World.ownsRow_nil _ _ _ _, ?_, ?_, ?_, by omega, s1, s2, fun j hj => (O1.out.lt j hj).2⟩
        · rw [hw3]; exact heap_alloc_new w2 _
        · rw [hw3]; exact hlev.alloc _
        · rw [hw3]; exact (own_below O1.out hb12).alloc _
        · rw [hw3]; exact (B1.out.trans (hb12.mono s1)).alloc (by omega) _
      clear hw3 hown hgrow
      have P0 : Hid ((List.replicate k (0 : Int)).take ([] : List Int).length = []) := by
        show _ = _
        simp
      go_wp2_with fail
      go_loopw [3, 8] (fun d i wr => ∃ (j : Nat) (nx : Int) (nv : Value) (lv : List Int), j ≤ k ∧ i = .int .i64 j ∧ d = .int .i64 ((stkAt zs j).length : Nat) ∧ Inv w w1 w2 wr b0 k zs { data := #[] } j nx nv (stkAt zs j) lv ∧ lv.take (stkAt zs j).length = stkAt zs j) (fun _ i _ => k - (intOf i).toNat)
      case atStart => exact ⟨0, 0, _, _, Nat.zero_le _, rfl, by rw [stkAt_zero]; rfl, by rw [stkAt_zero]; exact I0.out, by rw [stkAt_zero]; exact P0.out⟩
      case round =>
        obtain ⟨j, nx, nv, lv, hj, rfl, rfl, hinv, hpre⟩ := hrel
        clear I0 P0
        by_cases hlt : j < k
        · obtain ⟨g0, cg0, hv0, -, -, -, hcs⟩ := own_form hinv.src (by omega)
          simp only [Value.slice.injEq, true_and] at hv0
          obtain ⟨rfl, rfl⟩ := hv0
          have hzl : j < zs.length := by rw [HR.out.1]; exact hlt
          have ds := hcs j hlt
          have hl := stkAt_len zs j (by omega)
          have hcase := OK.out j hlt
          have hsucc := stkAt_open zs j hzl
          have hsucc' := stkAt_close zs j hzl
          generalize hz : zs.getD j 0 = z at ds hcase hsucc hsucc'
          generalize hS : stkAt zs j = S at hinv hpre hl hcase hsucc hsucc'
          have hww : wrap64 ((j : Int) + 1) = ((j + 1 : Nat) : Int) := by unfold wrap64; omega
          have HWW := hid hww
          have I := hid hinv
          have PRE := hid hpre
          have SU := hid hsucc
          have SU' := hid hsucc'
          clear hz hS hcs hinv hpre hsucc hsucc' hww
          rcases hcase with hop | ⟨hcl, hne⟩
          · rcases hop with rfl | rfl
            · go_wp2_with fail
              refine (zzdelim_brace w2.heap.size (w2.heap.size + 1) S.length _ j nx nv _ _ S wr I.out.dec I.out.nest I.out.sz (by omega)).mono ?_
              rintro e wa ⟨nv', rfl, d8, o8, k8⟩
              rw [HWW.out] at d8
              have I1 := hid (Inv.opened (S' := S ++ [123]) I.out d8 (by simpa using o8) k8)
              obtain ⟨g, cap, rfl, hcap, -, -, -⟩ := own_form o8 (by omega)
              have cl := I1.out.levCell S.length (by omega)
              have fl := I1.out.lev.frozenAt S.length
              clear d8 o8 k8
              go_wp2_with fail
              have I2 := hid (I1.out.stored S.length 123)
              clear cl fl
              generalize wa.setCell ⟨w1.heap.size, S.length, none⟩ (.int .u8 123) = wb at I2 ⊢
              have c1 : wb.cell? ⟨g, S.length, none⟩ = some (.int .u8 123) := by
                obtain ⟨g', cap', hv', -, -, -, hc'⟩ := own_form I2.out.nest (by simp)
                simp only [Value.slice.injEq, Option.some.injEq, Addr.mk.injEq, and_true] at hv'
                obtain ⟨rfl, -, -⟩ := hv'
                have := hc' S.length (by simp)
                rw [show S.length = S.length + 0 from rfl, getD_right] at this
                exact this
              have c2 : wb.cell? ⟨w1.heap.size, S.length, none⟩ = some (.int .u8 123) := by
                have hll := I1.out.levLen
                have := I2.out.levCell S.length (by omega)
                rw [this, set_getD _ _ _ (by omega)]
              have R : Hid ((lv.set S.length 123).take (stkAt zs (j + 1)).length = stkAt zs (j + 1) ∧ (stkAt zs (j + 1)).length = S.length + 1 ∧ Inv w w1 w2 wb (some ⟨g0, 0, none⟩) k zs { data := #[] } ((j + 1 : Nat) : Int) 2 (.slice (some ⟨g, 0, none⟩) (S.length + 1) cap) (stkAt zs (j + 1)) (lv.set S.length 123)) := by
                have hll := I1.out.levLen
                rw [SU.out 123 rfl (by omega)]
                exact ⟨lev_open PRE.out (by omega) 123, by simp, I2.out⟩
              clear I1
              refine (fields_any w2.heap.size (some ⟨g0, 0, none⟩) k k _ _ (some ⟨g, 0, none⟩) (S.length + 1) cap _ none 0 0 wb I2.out.dec).mono ?_
              rintro e wc ⟨rfl, qa, rfl⟩
              have hp1 : (0 : Int) < (S.length : Int) + 1 := by omega
              have hp2 : (S.length : Int) < (k : Int) := by omega
              go_wp2
              go_quiet (fail)
              go_wp2
              go_roundw
              case rel => exact ⟨j + 1, _, _, _, by omega, by go_num, by rw [R.out.2.1]; go_num, R.out.2.2.drewN _, R.out.1⟩
              case measure => simp [intOf]; omega
            · go_wp2_with fail
              refine (zzdelim_bracket w2.heap.size (w2.heap.size + 1) S.length _ j nx nv _ _ S wr I.out.dec I.out.nest I.out.sz (by omega)).mono ?_
              rintro e wa ⟨nv', rfl, d8, o8, k8⟩
              rw [HWW.out] at d8
              have I1 := hid (Inv.opened (S' := S ++ [91]) I.out d8 (by simpa using o8) k8)
              obtain ⟨g, cap, rfl, hcap, -, -, -⟩ := own_form o8 (by omega)
              have cl := I1.out.levCell S.length (by omega)
              have fl := I1.out.lev.frozenAt S.length
              clear d8 o8 k8
              go_wp2_with fail
              have I2 := hid (I1.out.stored S.length 91)
              clear cl fl
              generalize wa.setCell ⟨w1.heap.size, S.length, none⟩ (.int .u8 91) = wb at I2 ⊢
              have c1 : wb.cell? ⟨g, S.length, none⟩ = some (.int .u8 91) := by
                obtain ⟨g', cap', hv', -, -, -, hc'⟩ := own_form I2.out.nest (by simp)
                simp only [Value.slice.injEq, Option.some.injEq, Addr.mk.injEq, and_true] at hv'
                obtain ⟨rfl, -, -⟩ := hv'
                have := hc' S.length (by simp)
                rw [show S.length = S.length + 0 from rfl, getD_right] at this
                exact this
              have c2 : wb.cell? ⟨w1.heap.size, S.length, none⟩ = some (.int .u8 91) := by
                have hll := I1.out.levLen
                have := I2.out.levCell S.length (by omega)
                rw [this, set_getD _ _ _ (by omega)]
              have R : Hid ((lv.set S.length 91).take (stkAt zs (j + 1)).length = stkAt zs (j + 1) ∧ (stkAt zs (j + 1)).length = S.length + 1 ∧ Inv w w1 w2 wb (some ⟨g0, 0, none⟩) k zs { data := #[] } ((j + 1 : Nat) : Int) 1 (.slice (some ⟨g, 0, none⟩) (S.length + 1) cap) (stkAt zs (j + 1)) (lv.set S.length 91)) := by
                have hll := I1.out.levLen
                rw [SU.out 91 rfl (by omega)]
                exact ⟨lev_open PRE.out (by omega) 91, by simp, I2.out⟩
              clear I1
              refine (fields_any w2.heap.size (some ⟨g0, 0, none⟩) k k _ _ (some ⟨g, 0, none⟩) (S.length + 1) cap _ none 0 0 wb I2.out.dec).mono ?_
              rintro e wc ⟨rfl, qa, rfl⟩
              have hp1 : (0 : Int) < (S.length : Int) + 1 := by omega
              have hp2 : (S.length : Int) < (k : Int) := by omega
              go_wp2
              go_quiet (fail)
              go_wp2
              go_roundw
              case rel => exact ⟨j + 1, _, _, _, by omega, by go_num, by rw [R.out.2.1]; go_num, R.out.2.2.drewN _, R.out.1⟩
              case measure => simp [intOf]; omega
          · obtain ⟨T, x, rfl⟩ : ∃ T x, S = T ++ [x] := ⟨S.dropLast, S.getLast hne, (List.dropLast_concat_getLast hne).symm⟩
            have hlT : T.length + 1 ≤ j := by simpa using hl
            obtain ⟨g, cap, rfl, hcap, -, -, -⟩ := own_form I.out.nest (by simp)
            have hcap' : T.length + 1 ≤ cap := by simpa using hcap
            have eL : (T ++ [x]).length = T.length + 1 := by simp
            have q1 : (z == 123) = false := by simp; omega
            have q2 : (z == 91) = false := by simp; omega
            have d7 := I.out.dec
            have n7 := I.out.nest
            have HL := hid hl
            rw [eL] at d7 n7 hcap
            simp only [eL]
            have D7 := hid d7
            have N7 := hid n7
            clear d7 n7 hl hne eL hcap
            go_wp2_with fail
            refine (zzdelim_close z q1 q2 w2.heap.size g T.length cap _ j nx _ _ wr D7.out hcap' (by omega)).mono ?_
            rintro e wa ⟨rfl, d8, k8⟩
            rw [HWW.out] at d8
            have o8 : wa.ownsRow (w2.heap.size + 1) 5 1 (.slice (some ⟨g, 0, none⟩) T.length cap) T.length (bys T) := by
              have p7 : wr.ownsRow (w2.heap.size + 1) 5 1 (.slice (some ⟨g, 0, none⟩) T.length cap) T.length (bys T) := by
                have := N7.out
                rw [bys_append] at this
                exact ownsRow_pop (by simp) this
              exact p7.kept k8 (.inr (own_ne D7.out p7))
            have I1 := hid (Inv.opened (S' := T) I.out d8 o8 ⟨k8.os, k8.tape, k8.output, k8.size, fun i hi h1 _ => k8.block i hi (by simpa using h1)⟩)
            have R : Hid (lv.take (stkAt zs (j + 1)).length = stkAt zs (j + 1) ∧ (stkAt zs (j + 1)).length = T.length ∧ Inv w w1 w2 wa (some ⟨g0, 0, none⟩) k zs { data := #[] } ((j + 1 : Nat) : Int) (nextv T.length) (.slice (some ⟨g, 0, none⟩) T.length cap) (stkAt zs (j + 1)) lv) := by
              rw [SU'.out z rfl hcl]
              simp only [List.dropLast_concat]
              exact ⟨lev_close PRE.out, trivial, I1.out⟩
            clear d8 o8 k8
            go_wp2_with fail
            refine (fields_any w2.heap.size (some ⟨g0, 0, none⟩) k k _ _ (some ⟨g, 0, none⟩) T.length cap _ none 0 0 wa I1.out.dec).mono ?_
            rintro e wc ⟨rfl, qa, rfl⟩
            by_cases hT : T.length = 0
            · have hnx : nextv T.length = 6 := by unfold nextv; rw [if_pos hT]
              rw [hnx]
              have HT := hid hT
              rw [hT]
              clear hnx hT
              go_wp2
              go_quiet (fail)
              go_wp2
              go_roundw
              case rel => exact ⟨j + 1, _, _, _, by omega, by go_num, by rw [R.out.2.1, HT.out]; rfl, R.out.2.2.drewN _, R.out.1⟩
              case measure => simp [intOf]; omega
            · obtain ⟨t, ht⟩ : ∃ t, T.length = t + 1 := ⟨T.length - 1, by omega⟩
              have c1 : wa.cell? ⟨g, t, none⟩ = some (.int .u8 (T.getD t 0)) := by
                obtain ⟨g', cap', hv', -, -, -, hc'⟩ := own_form I1.out.nest (by omega)
                simp only [Value.slice.injEq, Option.some.injEq, Addr.mk.injEq, and_true] at hv'
                obtain ⟨rfl, -, -⟩ := hv'
                exact hc' t (by omega)
              have c2 : wa.cell? ⟨w1.heap.size, t, none⟩ = some (.int .u8 (T.getD t 0)) := by
                rw [I1.out.levCell t (by omega), lev_get (lev_close PRE.out) t (by omega)]
              have hnx : nextv T.length = 5 := by unfold nextv; rw [if_neg hT]
              rw [hnx]
              generalize T.getD t 0 = y at c1 c2
              have htk : (t : Int) < (k : Int) := by omega
              have HT := hid ht
              rw [ht]
              have hp1 : (0 : Int) < (t : Int) + 1 := by omega
              have hcap2 : t + 1 ≤ cap := by omega
              clear hnx hT ht
              go_wp2
              go_quiet (fail)
              go_wp2
              go_roundw
              case rel => exact ⟨j + 1, _, _, _, by omega, by go_num, by rw [R.out.2.1, HT.out]; go_num, R.out.2.2.drewN _, R.out.1⟩
              case measure => simp [intOf]; omega
        · obtain rfl : j = k := by omega
          have hl := stkAt_len zs j (by rw [HR.out.1]; exact Nat.le_refl _)
          generalize stkAt zs j = S at hinv hpre hl
          obtain ⟨a, cap, rfl⟩ := own_shape hinv.nest
          have I := hid hinv
          have PRE := hid hpre
          clear hinv hpre
          go_wp2_with fail
          refine (fields_any w2.heap.size b0 j j _ _ a S.length cap _ none 0 0 wr I.out.dec).mono ?_
          rintro e wc ⟨rfl, qa, rfl⟩
          have hlI : (S.length : Int) ≤ (j : Int) := by omega
          go_wp2_with fail
          refine (same_any a (some ⟨w1.heap.size, 0, none⟩) S.length cap j S _ (by exact ownsRow_rd I.out.nest) (by exact I.out.levRd PRE.out hl) (by omega)).mono ?_
          rintro e wd ⟨rfl, qb, rfl⟩
          go_wp2
          go_ret
          exact ⟨rfl, below_drewN I.out.bel _⟩

theorem script_walk (a0 : Option Addr) (len0 cap0 : Nat) (z0 : List Int) (w : World) (w0 : IsRow .u8 w a0 len0 cap0 z0) :
    Calls Try.prog 8 #[.slice a0 len0 cap0] w fun e w' => e = .returned (.bool true) ∧ Below w.heap.size w w' := by
  by_cases h : len0 ≤ 65536
  · exact script_small a0 len0 cap0 _ w w0.rd.1 w0.rd.2 h
  · refine script_big a0 len0 cap0 w ?_ (by omega)
    rcases w0 with ⟨_, rfl, _⟩ | ⟨x, _, h1, h2, _⟩
    · exact Nat.zero_le _
    · omega
end Go.Proofs.Qxb6602759a

import Derived.Test.Qxb6602759aRows
import Derived.WalkKit
import Derived.ProofKit
import Derived.OpenShut
import Derived.ShutString
import Derived.ChangeOld
import Derived.Below
import Derived.WalkSpells
import Derived.Lib.SliceRun
namespace Go.Proofs.Qxb6602759a
open Go.ChangeShapes Go.WideShapes Go.ChangeAt Go.RowKit

theorem Try.info5 : (Try.prog.info? 5).map (fun i => (i.zero, i.size, i.bytes)) = some (some (.int .u8 0), 1, 1) := by kernel_rfl

/-- The bytes as the cells hold them. -/
def bys (zs : List Int) : List Value := zs.map (Value.int .u8)
@[simp] theorem bys_length (zs : List Int) : (bys zs).length = zs.length := by simp [bys]
theorem bys_get (zs : List Int) (i : Nat) (h : i < zs.length) : (bys zs)[i]? = some (.int .u8 (zs.getD i 0)) := by
  simp [bys, h]
theorem bys_append (a b : List Int) : bys (a ++ b) = bys a ++ bys b := by simp [bys]

/-- What the clone holds behind k rounds. -/
def cloneAt (zs : List Int) (k : Nat) : List Int := zs.take k ++ List.replicate (zs.length - k) 0
theorem cloneAt_zero (zs : List Int) : cloneAt zs 0 = List.replicate zs.length 0 := by simp [cloneAt]
theorem cloneAt_all (zs : List Int) : cloneAt zs zs.length = zs := by simp [cloneAt]
theorem cloneAt_length (zs : List Int) (k : Nat) (h : k ≤ zs.length) : (cloneAt zs k).length = zs.length := by simp [cloneAt]; omega
theorem cloneAt_get (zs : List Int) (k j : Nat) (h : k ≤ zs.length) : (cloneAt zs k)[j]? = if j < k then zs[j]? else if j < zs.length then some 0 else none := by
  unfold cloneAt
  rw [List.getElem?_append]
  have e : (zs.take k).length = k := by simp; omega
  rw [e, List.getElem?_take, List.getElem?_replicate]
  by_cases h2 : j < k
  · rw [if_pos h2, if_pos h2, if_pos h2]
  · rw [if_neg h2, if_neg h2]
    by_cases h3 : j < zs.length
    · rw [if_pos h3, if_pos (by omega)]
    · rw [if_neg h3, if_neg (by omega)]
theorem cloneAt_succ (zs : List Int) (k : Nat) (h : k < zs.length) : (cloneAt zs k).set k (zs.getD k 0) = cloneAt zs (k + 1) := by
  apply List.ext_getElem?
  intro j
  rw [List.getElem?_set, cloneAt_get _ _ _ (by omega), cloneAt_get _ _ _ (by omega), cloneAt_length _ _ (by omega)]
  by_cases h1 : k = j
  · subst h1
    rw [if_pos rfl, if_pos h, if_pos (by omega)]
    simp [h]
  · rw [if_neg h1]
    by_cases h2 : j < k
    · rw [if_pos h2, if_pos (by omega)]
    · rw [if_neg h2, if_neg (by omega : ¬ j < k + 1)]
theorem bys_set (zs : List Int) (k : Nat) (v : Int) : (bys zs).set k (.int .u8 v) = bys (zs.set k v) := by simp [bys, List.map_set]

theorem eql_nil (w : World) (a : Option Addr) (n c n' c' : Nat) : (binOp .eql 24 (.slice a n c) (.slice none n' c')).run Try.prog w = .ok (.bool a.isNone) w :=
  Lib.run_eql_slice_nil w _ _ a n c n' c' Try.underlying24

theorem clone_nil (w : World) : Calls Try.prog 13 #[.slice none 0 0] w fun e w' => e = .returned (.slice none 0 0) ∧ w' = w := by
  have q := eql_nil
  go_enter Try.func13, Try.ntmps13
  go_wp2
  go_ret
  exact ⟨rfl, rfl⟩

theorem clone_some (x : Addr) (n cap : Nat) (zs : List Int) (w : World) (hl : zs.length = n) (hc : ∀ i, i < n → w.cell? (x.add i) = some (.int .u8 (zs.getD i 0))) (hn : n ≤ 1048576) :
    Calls Try.prog 13 #[.slice (some x) n cap] w fun e w' => e = .returned (.slice (some ⟨w.heap.size, 0, none⟩) n n) ∧
      w'.ownsRow w.heap.size 5 1 (.slice (some ⟨w.heap.size, 0, none⟩) n n) n (bys zs) ∧ Below w.heap.size w w' := by
  have q := eql_nil
  obtain ⟨i0, hi, hz0, hz1, hz2⟩ := info_parts Try.info5
  have HL : Hid _ := hl
  clear hl
  go_enter Try.func13, Try.ntmps13
  go_wp2_with (at_make; refine wpList_make_full _ rfl (.tmp 8) (.tmp 8) 24 rfl w.heap.size 5 i0 (.int .u8 0) 1 Try.underlying24 hi hz0 hz1 .i64 .i64 n n n rfl rfl rfl rfl (by rw [hz2]; omega) (by unfold maxLen; omega) (Nat.le_refl _) ?_; intro w1 hown hgrow)
  have hbel : Below w.heap.size w w1 := (Below.refl _ _).grown hgrow (Nat.le_refl _) (fun k h => by cases h)
  have hown0 : w1.ownsRow w.heap.size 5 1 (.slice (some ⟨w.heap.size, 0, none⟩) n n) n (bys (cloneAt zs 0)) := by
    rw [cloneAt_zero, HL.out]
    simpa [bys, Value.cells, toList_madeCells_one] using hown
  clear hown hgrow
  go_loopw [4] (fun i wr => ∃ k : Nat, k ≤ n ∧ i = .int .i64 k ∧ wr.ownsRow w.heap.size 5 1 (.slice (some ⟨w.heap.size, 0, none⟩) n n) n (bys (cloneAt zs k)) ∧ Below w.heap.size w wr) (fun i _ => n - (intOf i).toNat)
  case atStart => exact ⟨0, Nat.zero_le _, rfl, hown0, hbel⟩
  case round =>
    obtain ⟨k, hk, rfl, hownk, hbelk⟩ := hrel
    clear hown0 hbel
    by_cases hlt : k < n
    · have hzl : k < zs.length := by rw [HL.out]; exact hlt
      have hcl := cloneAt_length zs k (by omega)
      have hcx := hc k hlt
      have hbx : (x.add k).block < w.heap.size := World.block_lt_of_cell? w _ hcx
      have hcx1 : wr.cell? (x.add k) = some (.int .u8 (zs.getD k 0)) := (hbelk.cell hbx).trans hcx
      have hcd : wr.cell? ⟨w.heap.size, k, none⟩ = some (.int .u8 ((cloneAt zs k).getD k 0)) := (hownk.cellAt k (by omega)).trans (bys_get _ _ (by omega))
      have hfd := hownk.frozenAt k
      have hst := hownk.stored k (.int .u8 (zs.getD k 0))
      rw [bys_set, cloneAt_succ _ _ hzl] at hst
      generalize zs.getD k 0 = z at hst hcx1
      have HST : Hid _ := hst
      have HB : Hid _ := hbelk
      clear hst hbelk hownk hcl hcx hc
      go_wp2
      all_goals
        go_roundw
        case rel => exact ⟨k + 1, by omega, by go_num, HST.out.1, HB.out.setCell (Nat.le_refl _) _⟩
        case measure => simp [intOf]; omega
    · obtain rfl : k = n := by omega
      go_wp2
      go_ret
      refine ⟨rfl, ?_, hbelk⟩
      have e := HL.out
      rw [← e, cloneAt_all] at hownk
      rw [← e]
      exact hownk
end Go.Proofs.Qxb6602759a

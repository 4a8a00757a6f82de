import Derived.Test.Qxb6602759aDelim
import Derived.Test.Qxb6602759aSame
namespace Go.Proofs.Qxb6602759a
open Go.ChangeShapes Go.WideShapes Go.ChangeAt Go.RowKit

theorem hid {p : Prop} (h : p) : Hid p := h

theorem own_keep {w w' : World} {base e size n : Nat} {v : Value} {xs : List Value} (h : w.ownsRow base e size v n xs) (hk : ∀ k, v.ownBlock = some k → w'.heap[k]? = w.heap[k]?) : w'.ownsRow base e size v n xs := by
  refine ⟨h.1, ?_⟩
  rcases h.2 with h | ⟨g, cap, cur, rfl, hb, hg, r⟩
  · exact .inl h
  · exact .inr ⟨g, cap, cur, rfl, hb, (hk g rfl).trans hg, r⟩

theorem own_below {w w' : World} {base e size n : Nat} {v : Value} {xs : List Value} (h : w.ownsRow base e size v n xs) (hb : Below w.heap.size w w') : w'.ownsRow base e size v n xs :=
  own_keep h fun k hk => hb.block k (h.lt k hk).2

theorem oc_off (off : Int) : (wrap64 (wrap64 (off + 1) + 1) == wrap64 (off + 2)) = true := by
  unfold wrap64
  simp
  omega

/-- What lies in memory behind the two calls of delim, out of what each call leaves. -/
theorem oc_mem {w w1 w2 w3 w4 w5 w6 w8 w9 : World} {D : Nat} {o : Obj} {v0 v3 v5 d0 d5 d3 : Value} {n0 n3 n5 : Nat} {x0 x3 x5 : List Value}
    (o1 : w1.ownsRow w.heap.size 5 1 v0 n0 x0) (b1 : Below w.heap.size w w1)
    (o2 : w2.ownsRow w1.heap.size 5 1 v3 n3 x3) (b2 : Below w1.heap.size w1 w2)
    (o3 : w3.ownsRow w2.heap.size 5 1 v5 n5 x5) (b3 : Below w2.heap.size w2 w3)
    (o4 : w4.ownsRow w3.heap.size 5 1 d0 n0 x0) (b4 : Below w3.heap.size w3 w4)
    (o5 : w5.ownsRow w4.heap.size 5 1 d5 n5 x5) (b5 : Below w4.heap.size w4 w5)
    (o6 : w6.ownsRow w5.heap.size 5 1 d3 n3 x3) (b6 : Below w5.heap.size w5 w6)
    (hD : D = w6.heap.size) (k8 : Kp D v3.ownBlock (w6.alloc o) w8) (k9 : w8.grownBy w9 (some D)) :
    w9.ownsRow w.heap.size 5 1 v0 n0 x0 ∧ w9.ownsRow w2.heap.size 5 1 v5 n5 x5 ∧ w9.ownsRow w3.heap.size 5 1 d0 n0 x0 ∧ w9.ownsRow w4.heap.size 5 1 d5 n5 x5 ∧ w9.ownsRow w5.heap.size 5 1 d3 n3 x3 ∧ Below w.heap.size w w9 := by
  have s1 := b1.size
  have s2 := b2.size
  have s3 := b3.size
  have s4 := b4.size
  have s5 := b5.size
  have s6 := b6.size
  have last : ∀ k, k < w6.heap.size → some k ≠ v3.ownBlock → w9.heap[k]? = w6.heap[k]? := by
    intro k hk hne
    rw [k9.block k (by have := k8.size; simp at this; omega) (by simp; omega), k8.block k (by simp; omega) (by omega) hne]
    exact Below.heap_alloc _ _ _ hk
  have lt3 := fun k hk => o2.lt k hk
  refine ⟨?_, ?_, ?_, ?_, ?_, ?_⟩
  · refine own_keep o1 fun k hk => ?_
    have hk1 := o1.lt k hk
    rw [last k (by omega) (fun e => by have := lt3 k e.symm; omega), b6.block k (by omega), b5.block k (by omega), b4.block k (by omega), b3.block k (by omega), b2.block k (by omega)]
  · refine own_keep o3 fun k hk => ?_
    have hk1 := o3.lt k hk
    rw [last k (by omega) (fun e => by have := lt3 k e.symm; omega), b6.block k (by omega), b5.block k (by omega), b4.block k (by omega)]
  · refine own_keep o4 fun k hk => ?_
    have hk1 := o4.lt k hk
    rw [last k (by omega) (fun e => by have := lt3 k e.symm; omega), b6.block k (by omega), b5.block k (by omega)]
  · refine own_keep o5 fun k hk => ?_
    have hk1 := o5.lt k hk
    rw [last k (by omega) (fun e => by have := lt3 k e.symm; omega), b6.block k (by omega)]
  · refine own_keep o6 fun k hk => ?_
    have hk1 := o6.lt k hk
    rw [last k (by omega) (fun e => by have := lt3 k e.symm; omega)]
  · have hb6 : Below w.heap.size w w6 := ((((b1.trans (b2.mono (by omega))).trans (b3.mono (by omega))).trans (b4.mono (by omega))).trans (b5.mono (by omega))).trans (b6.mono (by omega))
    refine ⟨?_, ?_, ?_, ?_, ?_⟩
    · rw [k9.os, k8.os]; exact hb6.os
    · rw [k9.tape, k8.tape]; exact hb6.tape
    · rw [k9.output, k8.output]; exact hb6.output
    · have h1 := k9.size
      have h2 := k8.size
      simp at h2
      omega
    · intro k hk
      rw [last k (by omega) (fun e => by have := lt3 k e.symm; omega)]
      exact hb6.block k hk

theorem zzOC_any (a0 : Option Addr) (l0 c0 : Nat) (off nx : Int) (a3 : Option Addr) (l3 c3 : Nat) (m : ByteArray) (a5 : Option Addr) (l5 c5 : Nat) (op : Int) (w : World)
    (h0 : l0 ≤ maxLen) (h3 : l3 ≤ maxLen) (h4 : m.size ≤ maxLen) (h5 : l5 ≤ maxLen) :
    Calls Try.prog 17 #[.slice a0 l0 c0, .int .i64 off, .int .u8 nx, .slice a3 l3 c3, .string m, .slice a5 l5 c5, .int .u8 op] w fun e w' => ∃ b, e = .returned (.bool b) ∧ w = w' := by
  unfold maxLen at h0 h3 h4 h5
  go_enter Try.func17, Try.ntmps17
  go_wp2
  all_goals
    go_ret
    exact ⟨_, rfl, rfl⟩
theorem zzOC_true (a0 : Option Addr) (l0 c0 : Nat) (off nx : Int) (a3 : Option Addr) (l3 c3 : Nat) (m : ByteArray) (a5 : Option Addr) (l5 c5 : Nat) (op : Int) (w : World)
    (h0 : l0 ≤ 262144) (h3 : l3 ≤ 262144) (h4 : m.size ≤ 262144) (h5 : l5 ≤ 262144) :
    Calls Try.prog 17 #[.slice a0 l0 c0, .int .i64 off, .int .u8 nx, .slice a3 l3 c3, .string m, .slice a5 l5 c5, .int .u8 op] w fun e w' => e = .returned (.bool true) ∧ w = w' := by
  go_enter Try.func17, Try.ntmps17
  go_wp2
  all_goals
    go_ret
    exact ⟨rfl, rfl⟩
end Go.Proofs.Qxb6602759a

import Derived.Test.Qxb6602759aOpenClose
namespace Go.Proofs.Qxb6602759a
open Go.ChangeShapes Go.WideShapes Go.ChangeAt Go.RowKit

/-! ### The plain law: the openers still unclosed, behind the first bytes of the script -/
def stepS (s : List Int) (c : Int) : List Int := if c = 123 ∨ c = 91 then s ++ [c] else s.dropLast
def stk (zs : List Int) : List Int := zs.foldl stepS []
def stkAt (zs : List Int) (k : Nat) : List Int := stk (zs.take k)
def okTo (zs : List Int) (k : Nat) : Prop := ∀ i, i < k → (zs.getD i 0 = 123 ∨ zs.getD i 0 = 91) ∨ ((zs.getD i 0 = 125 ∨ zs.getD i 0 = 93) ∧ stkAt zs i ≠ [])

theorem stkAt_zero (zs : List Int) : stkAt zs 0 = [] := by simp [stkAt, stk]
theorem stkAt_succ (zs : List Int) (k : Nat) (h : k < zs.length) : stkAt zs (k + 1) = stepS (stkAt zs k) (zs.getD k 0) := by
  unfold stkAt stk
  rw [List.take_succ_eq_append_getElem h, List.foldl_append]
  simp [h]
theorem stkAt_len (zs : List Int) (k : Nat) (h : k ≤ zs.length) : (stkAt zs k).length ≤ k := by
  induction k with
  | zero => simp [stkAt_zero]
  | succ k ih =>
    have := ih (by omega)
    rw [stkAt_succ _ _ (by omega)]
    unfold stepS
    split
    · simp; omega
    · simp; omega
theorem stkAt_open (zs : List Int) (k : Nat) (h : k < zs.length) (c : Int) (hc : zs.getD k 0 = c) (ho : c = 123 ∨ c = 91) : stkAt zs (k + 1) = stkAt zs k ++ [c] := by
  rw [stkAt_succ _ _ h, hc, stepS, if_pos ho]
theorem stkAt_close (zs : List Int) (k : Nat) (h : k < zs.length) (c : Int) (hc : zs.getD k 0 = c) (ho : c = 125 ∨ c = 93) : stkAt zs (k + 1) = (stkAt zs k).dropLast := by
  rw [stkAt_succ _ _ h, hc, stepS, if_neg (by omega)]
theorem okTo_succ {zs : List Int} {k : Nat} (h : okTo zs k) (hk : (zs.getD k 0 = 123 ∨ zs.getD k 0 = 91) ∨ ((zs.getD k 0 = 125 ∨ zs.getD k 0 = 93) ∧ stkAt zs k ≠ [])) : okTo zs (k + 1) := by
  intro i hi
  by_cases e : i = k
  · subst e; exact hk
  · exact h i (by omega)

/-- Where 'pre' of the levels is the stack: an opener stored at the depth. -/
theorem lev_open {lv S : List Int} (h : lv.take S.length = S) (hl : S.length < lv.length) (c : Int) : (lv.set S.length c).take (S ++ [c]).length = S ++ [c] := by
  apply List.ext_getElem?
  intro j
  have hj : ∀ i, i < S.length → lv[i]? = S[i]? := by
    intro i hi
    conv => rhs; rw [← h]
    rw [List.getElem?_take, if_pos hi]
  rw [List.getElem?_take, List.getElem?_set, List.getElem?_append]
  simp only [List.length_append, List.length_cons, List.length_nil, Nat.zero_add]
  by_cases h1 : j < S.length
  · rw [if_pos (by omega), if_neg (by omega), if_pos h1]
    exact hj j h1
  · by_cases h2 : j = S.length
    · subst h2
      simp [hl]
    · rw [if_neg (by omega), if_neg h1, List.getElem?_eq_none (by simp; omega)]
theorem lev_close {lv S : List Int} {x : Int} (h : lv.take (S ++ [x]).length = S ++ [x]) : lv.take S.length = S := by
  have := congrArg (List.take S.length) h
  rw [List.take_take] at this
  simpa using this
theorem lev_get {lv S : List Int} (h : lv.take S.length = S) (j : Nat) (hj : j < S.length) : lv.getD j 0 = S.getD j 0 := by
  have : lv[j]? = S[j]? := by
    conv => rhs; rw [← h]
    rw [List.getElem?_take, if_pos hj]
  rw [List.getD_eq_getElem?_getD, List.getD_eq_getElem?_getD, this]

/-! ### What lies in memory at the head of a round -/
structure Inv (w w1 w2 wr : World) (b0 : Option Addr) (n : Nat) (zs : List Int) (m : ByteArray) (off nx : Int) (nv : Value) (S lv : List Int) : Prop where
  dec : IsDec wr w2.heap.size (.slice b0 n n) off nx nv m (.slice none 0 0)
  nest : wr.ownsRow (w2.heap.size + 1) 5 1 nv S.length (bys S)
  lev : wr.ownsRow w1.heap.size 5 1 (.slice (some ⟨w1.heap.size, 0, none⟩) n n) n (bys lv)
  src : wr.ownsRow w.heap.size 5 1 (.slice b0 n n) n (bys zs)
  bel : Below w.heap.size w wr
  sz : w2.heap.size + 1 ≤ wr.heap.size
  s1 : w.heap.size ≤ w1.heap.size
  s2 : w1.heap.size < w2.heap.size
  srcLt : ∀ k, (Value.slice b0 n n).ownBlock = some k → k < w1.heap.size

theorem Inv.drewN {w w1 w2 wr : World} {b0 : Option Addr} {n : Nat} {zs : List Int} {m : ByteArray} {off nx : Int} {nv : Value} {S lv : List Int} (h : Inv w w1 w2 wr b0 n zs m off nx nv S lv) (q : Nat) :
    Inv w w1 w2 (wr.drewN q) b0 n zs m off nx nv S lv := ⟨h.dec, h.nest, h.lev, h.src, below_drewN h.bel q, h.sz, h.s1, h.s2, h.srcLt⟩

theorem Inv.opened {w w1 w2 wr w' : World} {b0 : Option Addr} {n : Nat} {zs : List Int} {m : ByteArray} {off nx off' nx' : Int} {nv nv' : Value} {S S' lv : List Int} (h : Inv w w1 w2 wr b0 n zs m off nx nv S lv)
    (d : IsDec w' w2.heap.size (.slice b0 n n) off' nx' nv' m (.slice none 0 0)) (o : w'.ownsRow (w2.heap.size + 1) 5 1 nv' S'.length (bys S')) (k : Kp w2.heap.size nv.ownBlock wr w') :
    Inv w w1 w2 w' b0 n zs m off' nx' nv' S' lv := by
  have s1 := h.s1
  have s2 := h.s2
  have sz := h.sz
  have keep : ∀ j, j < w2.heap.size → w'.heap[j]? = wr.heap[j]? := fun j hj =>
    k.block j (by omega) (by omega) (fun e => by have := (h.nest.lt j e.symm).1; omega)
  refine ⟨d, o, own_keep h.lev fun j hj => keep j ?_, own_keep h.src fun j hj => keep j ?_, ?_, Nat.le_trans sz k.size, h.s1, h.s2, h.srcLt⟩
  · simp [Value.ownBlock] at hj
    omega
  · have := h.srcLt j hj
    omega
  · refine ⟨k.os.trans h.bel.os, k.tape.trans h.bel.tape, k.output.trans h.bel.output, Nat.le_trans h.bel.size k.size, fun j hj => ?_⟩
    rw [keep j (by omega)]
    exact h.bel.block j hj

theorem Inv.stored {w w1 w2 wr : World} {b0 : Option Addr} {n : Nat} {zs : List Int} {m : ByteArray} {off nx : Int} {nv : Value} {S lv : List Int} (h : Inv w w1 w2 wr b0 n zs m off nx nv S lv) (j : Nat) (c : Int) :
    Inv w w1 w2 (wr.setCell ⟨w1.heap.size, j, none⟩ (.int .u8 c)) b0 n zs m off nx nv S (lv.set j c) := by
  have s1 := h.s1
  have s2 := h.s2
  have sz := h.sz
  have keep : ∀ i, i ≠ w1.heap.size → (wr.setCell ⟨w1.heap.size, j, none⟩ (.int .u8 c)).heap[i]? = wr.heap[i]? := fun i hi => Below.heap_setCell wr _ _ i hi
  refine ⟨?_, own_keep h.nest fun i hi => keep i ?_, ?_, own_keep h.src fun i hi => keep i ?_, h.bel.setCell (by show w.heap.size ≤ w1.heap.size; omega) _, ?_, h.s1, h.s2, h.srcLt⟩
  · unfold IsDec
    rw [keep _ (by omega)]
    exact h.dec
  · have := (h.nest.lt i hi).1
    omega
  · rw [← bys_set]
    exact (h.lev.stored j _).1
  · have := h.srcLt i hi
    omega
  · rw [size_set]
    exact sz

theorem Inv.levLen {w w1 w2 wr : World} {b0 : Option Addr} {n : Nat} {zs : List Int} {m : ByteArray} {off nx : Int} {nv : Value} {S lv : List Int} (h : Inv w w1 w2 wr b0 n zs m off nx nv S lv) : lv.length = n := by
  have := h.lev.1
  simpa using this
theorem Inv.levCell {w w1 w2 wr : World} {b0 : Option Addr} {n : Nat} {zs : List Int} {m : ByteArray} {off nx : Int} {nv : Value} {S lv : List Int} (h : Inv w w1 w2 wr b0 n zs m off nx nv S lv) (j : Nat) (hj : j < n) :
    wr.cell? ⟨w1.heap.size, j, none⟩ = some (.int .u8 (lv.getD j 0)) := by
  rw [h.lev.cellAt j (by omega), bys_get _ _ (by rw [h.levLen]; exact hj)]
theorem own_shape {w : World} {base e size n : Nat} {v : Value} {xs : List Value} (h : w.ownsRow base e size v n xs) : ∃ a cap, v = .slice a n cap := by
  rcases h.2 with ⟨rfl, rfl⟩ | ⟨g, cap, cur, rfl, _⟩
  · exact ⟨_, _, rfl⟩
  · exact ⟨_, _, rfl⟩
end Go.Proofs.Qxb6602759a

import Derived.Test.Qxb6602759aClone
import Derived.ArgAppend
import Derived.Deep.RegionLaw
import Derived.Deep.RegionLawGrows
namespace Go.Proofs.Qxb6602759a
open Go.ChangeShapes Go.WideShapes Go.ChangeAt Go.RowKit

/-- A slice value of n bytes that can be read: its address, its numbers. -/
def Rd (w : World) (a : Option Addr) (n : Nat) (zs : List Int) : Prop :=
  zs.length = n ∧ (a = none → n = 0) ∧ ∀ x, a = some x → ∀ i, i < n → w.cell? (x.add i) = some (.int .u8 (zs.getD i 0))

theorem Rd.below {w w' : World} {a : Option Addr} {n : Nat} {zs : List Int} (h : Rd w a n zs) (hb : Below w.heap.size w w') : Rd w' a n zs :=
  ⟨h.1, h.2.1, fun x hx i hi => (hb.cell (World.block_lt_of_cell? w _ (h.2.2 x hx i hi))).trans (h.2.2 x hx i hi)⟩

/-- What the walks of the shells are told of a slice of integers that came in. -/
def IsRow (k : IntKind) (w : World) (a : Option Addr) (len cap : Nat) (zs : List Int) : Prop :=
  (a = none ∧ len = 0 ∧ cap = 0 ∧ zs = []) ∨
  ∃ x, a = some x ∧ len ≤ cap ∧ cap ≤ maxLen ∧ zs.length = cap ∧ (∀ i, i < zs.length → w.cell? (x.add i) = some (.int k (zs.getD i 0))) ∧ ∀ n ∈ zs, (Lit.int k n).wf = true

theorem IsRow.rd {w : World} {a : Option Addr} {len cap : Nat} {zs : List Int} (h : IsRow .u8 w a len cap zs) : Rd w a len (zs.take len) ∧ (a = none → cap = 0) := by
  rcases h with ⟨rfl, rfl, rfl, rfl⟩ | ⟨x, rfl, h1, h2, h3, h4, h5⟩
  · exact ⟨⟨rfl, fun _ => rfl, fun x hx => by cases hx⟩, fun _ => rfl⟩
  · refine ⟨⟨by simp; omega, fun h => by simp at h, fun y hy i hi => ?_⟩, fun h => by simp at h⟩
    cases hy
    rw [h4 i (by omega)]
    simp [List.getD_eq_getElem?_getD, hi]

theorem IsRow.byte {w : World} {a : Option Addr} {len cap : Nat} {zs : List Int} (h : IsRow .u8 w a len cap zs) : ∀ z ∈ zs.take len, 0 ≤ z ∧ z ≤ 255 := by
  rcases h with ⟨rfl, rfl, rfl, rfl⟩ | ⟨x, rfl, h1, h2, h3, h4, h5⟩
  · simp
  · intro z hz
    exact bounds_u8 (h5 z (List.mem_of_mem_take hz))

theorem ownsRow_rd {w : World} {base n cap : Nat} {a : Option Addr} {zs : List Int} (h : w.ownsRow base 5 1 (.slice a n cap) n (bys zs)) : Rd w a n zs := by
  have hl : zs.length = n := by have := h.1; simpa using this
  refine ⟨hl, ?_, ?_⟩
  · rintro rfl
    rcases h.2 with ⟨_, h2⟩ | ⟨g, c, cur, h1, _⟩
    · exact h2
    · simp at h1
  · rintro x rfl i hi
    rcases h.2 with ⟨h1, _⟩ | ⟨g, c, cur, h1, _⟩
    · simp at h1
    · simp only [Value.slice.injEq, Option.some.injEq] at h1
      obtain ⟨rfl, _, rfl⟩ := h1
      exact h.cells (g := g) rfl i _ (bys_get zs i (by omega))

theorem clone_any (a : Option Addr) (n cap : Nat) (zs : List Int) (w : World) (hr : Rd w a n zs) (hcap : a = none → cap = 0) (hn : n ≤ 1048576) :
    Calls Try.prog 13 #[.slice a n cap] w fun e w' => ∃ a', e = .returned (.slice a' n n) ∧ (a' = none ↔ a = none) ∧
      w'.ownsRow w.heap.size 5 1 (.slice a' n n) n (bys zs) ∧ Below w.heap.size w w' := by
  cases a with
  | none =>
    obtain rfl := hcap rfl
    obtain rfl := hr.2.1 rfl
    refine (clone_nil w).mono ?_
    rintro e w' ⟨rfl, rfl⟩
    have hz : zs = [] := List.eq_nil_of_length_eq_zero hr.1
    subst hz
    exact ⟨none, rfl, by simp, World.ownsRow_nil _ _ _ _, Below.refl _ _⟩
  | some x =>
    refine (clone_some x n cap zs w hr.1 (hr.2.2 x rfl) hn).mono ?_
    rintro e w' ⟨rfl, h1, h2⟩
    exact ⟨_, rfl, by simp, h1, h2⟩

/-- One hex digit, lower case. -/
def hexd (n : Int) : Int := if n < 10 then 48 + n else 87 + n
/-- What appendEscape appends. -/
def escv (c : Int) : List Int :=
  if c = 34 then [92, 34] else if c = 92 then [92, 92] else if c = 8 then [92, 98] else if c = 12 then [92, 102] else if c = 10 then [92, 110] else if c = 13 then [92, 114] else if c = 9 then [92, 116]
  else [92, 117, 48, 48, hexd (c / 16), hexd (c % 16)]

theorem news_alloc (w : World) (l : List Value) : ∀ j u, l[j]? = some u → (w.alloc (.cells l.toArray 5)).cell? ((⟨w.heap.size, 0, none⟩ : Addr).add j) = some u := by
  intro j u hu
  have := cell_of_row (w.alloc (.cells l.toArray 5)) w.heap.size j l.toArray 5 (0, 0) (heap_alloc_new w _)
  have hadd : (⟨w.heap.size, 0, none⟩ : Addr).add j = ⟨w.heap.size, j, none⟩ := by unfold Addr.add; split <;> simp_all
  rw [hadd, this]
  simpa using hu

theorem olds_alloc {w : World} {a : Option Addr} {n : Nat} {zs : List Int} (hr : Rd w a n zs) (o : Obj) : ∀ b, a = some b → ∀ j u, (bys zs)[j]? = some u → (w.alloc o).cell? (b.add j) = some u := by
  intro b hb j u hu
  have hj : j < zs.length := by
    have := (List.getElem?_eq_some_iff.1 hu).1
    simpa using this
  rw [bys_get zs j hj] at hu
  cases hu
  have h1 := hr.2.2 b hb j (by rw [← hr.1]; exact hj)
  exact cell_later ((Below.refl _ _).alloc (Nat.le_refl _) o) h1

theorem ownsRow_base {w : World} {base base' e size n : Nat} {v : Value} {xs : List Value} (h : w.ownsRow base e size v n xs) (hb : base' ≤ base) : w.ownsRow base' e size v n xs := by
  refine ⟨h.1, ?_⟩
  rcases h.2 with h | ⟨g, cap, cur, h1, h2, h3⟩
  · exact .inl h
  · exact .inr ⟨g, cap, cur, h1, by omega, h3⟩

theorem esc_end {w w' : World} {o : Obj} {n : Nat} {v : Value} {zs ns : List Int} (h : w'.ownsRow (w.alloc o).heap.size 5 1 v (n + ns.length) (bys zs ++ bys ns)) (hg : (w.alloc o).grownBy w' none) :
    w'.ownsRow w.heap.size 5 1 v (n + ns.length) (bys (zs ++ ns)) ∧ Below w.heap.size w w' := by
  refine ⟨?_, ?_⟩
  · rw [bys_append]
    exact ownsRow_base h (by simp)
  · exact ((Below.refl _ _).alloc (Nat.le_refl _) o).grown hg (by simp) (fun k hk => by cases hk)

theorem esc_34 (a : Option Addr) (n : Nat) (zs : List Int) (w : World) (hr : Rd w a n zs) (hn : n ≤ 1048576) :
    Calls Try.prog 24 #[.slice a n n, .int .u8 34] w fun e w' => ∃ v, e = .returned v ∧ w'.ownsRow w.heap.size 5 1 v (n + 2) (bys (zs ++ [92, 34])) ∧ Below w.heap.size w w' := by
  obtain ⟨i0, hi, hz0, hz1, hz2⟩ := info_parts Try.info5
  have HR : Hid (Rd w a n zs) := hr
  clear hr
  go_enter Try.func24, Try.ntmps24
  go_wp2_with (at_builtin; refine wpList_append_grows _ rfl (.tmp 9) (.tmp 11) 24 rfl 5 i0 (.int .u8 0) 1 1 Try.underlying24 hi hz0 hz1 hz2 rfl (by decide) a n n (bys zs) rfl (fun h => ⟨HR.out.2.1 h, HR.out.2.1 h⟩) (by simpa using HR.out.1) (olds_alloc HR.out _) ⟨w.heap.size, 0, none⟩ 2 2 (bys [92, 34]) rfl rfl (news_alloc w _) (by simp [bys, Value.oneCell']) (by omega) (by unfold maxLen; omega) (by omega) ?_; intro v' w1 hown hgrow)
  go_ret
  exact ⟨v', rfl, esc_end (ns := [92, 34]) hown hgrow⟩

theorem esc_92 (a : Option Addr) (n : Nat) (zs : List Int) (w : World) (hr : Rd w a n zs) (hn : n ≤ 1048576) :
    Calls Try.prog 24 #[.slice a n n, .int .u8 92] w fun e w' => ∃ v, e = .returned v ∧ w'.ownsRow w.heap.size 5 1 v (n + 2) (bys (zs ++ [92, 92])) ∧ Below w.heap.size w w' := by
  obtain ⟨i0, hi, hz0, hz1, hz2⟩ := info_parts Try.info5
  have HR : Hid (Rd w a n zs) := hr
  clear hr
  go_enter Try.func24, Try.ntmps24
  go_wp2_with (at_builtin; refine wpList_append_grows _ rfl (.tmp 9) (.tmp 11) 24 rfl 5 i0 (.int .u8 0) 1 1 Try.underlying24 hi hz0 hz1 hz2 rfl (by decide) a n n (bys zs) rfl (fun h => ⟨HR.out.2.1 h, HR.out.2.1 h⟩) (by simpa using HR.out.1) (olds_alloc HR.out _) ⟨w.heap.size, 0, none⟩ 2 2 (bys [92, 92]) rfl rfl (news_alloc w _) (by simp [bys, Value.oneCell']) (by omega) (by unfold maxLen; omega) (by omega) ?_; intro v' w1 hown hgrow)
  go_ret
  exact ⟨v', rfl, esc_end (ns := [92, 92]) hown hgrow⟩

theorem esc_8 (a : Option Addr) (n : Nat) (zs : List Int) (w : World) (hr : Rd w a n zs) (hn : n ≤ 1048576) :
    Calls Try.prog 24 #[.slice a n n, .int .u8 8] w fun e w' => ∃ v, e = .returned v ∧ w'.ownsRow w.heap.size 5 1 v (n + 2) (bys (zs ++ [92, 98])) ∧ Below w.heap.size w w' := by
  obtain ⟨i0, hi, hz0, hz1, hz2⟩ := info_parts Try.info5
  have HR : Hid (Rd w a n zs) := hr
  clear hr
  go_enter Try.func24, Try.ntmps24
  go_wp2_with (at_builtin; refine wpList_append_grows _ rfl (.tmp 15) (.tmp 16) 24 rfl 5 i0 (.int .u8 0) 1 1 Try.underlying24 hi hz0 hz1 hz2 rfl (by decide) a n n (bys zs) rfl (fun h => ⟨HR.out.2.1 h, HR.out.2.1 h⟩) (by simpa using HR.out.1) (olds_alloc HR.out _) ⟨w.heap.size, 0, none⟩ 2 2 (bys [92, 98]) rfl rfl (news_alloc w _) (by simp [bys, Value.oneCell']) (by omega) (by unfold maxLen; omega) (by omega) ?_; intro v' w1 hown hgrow)
  go_ret
  exact ⟨v', rfl, esc_end (ns := [92, 98]) hown hgrow⟩

theorem esc_12 (a : Option Addr) (n : Nat) (zs : List Int) (w : World) (hr : Rd w a n zs) (hn : n ≤ 1048576) :
    Calls Try.prog 24 #[.slice a n n, .int .u8 12] w fun e w' => ∃ v, e = .returned v ∧ w'.ownsRow w.heap.size 5 1 v (n + 2) (bys (zs ++ [92, 102])) ∧ Below w.heap.size w w' := by
  obtain ⟨i0, hi, hz0, hz1, hz2⟩ := info_parts Try.info5
  have HR : Hid (Rd w a n zs) := hr
  clear hr
  go_enter Try.func24, Try.ntmps24
  go_wp2_with (at_builtin; refine wpList_append_grows _ rfl (.tmp 20) (.tmp 21) 24 rfl 5 i0 (.int .u8 0) 1 1 Try.underlying24 hi hz0 hz1 hz2 rfl (by decide) a n n (bys zs) rfl (fun h => ⟨HR.out.2.1 h, HR.out.2.1 h⟩) (by simpa using HR.out.1) (olds_alloc HR.out _) ⟨w.heap.size, 0, none⟩ 2 2 (bys [92, 102]) rfl rfl (news_alloc w _) (by simp [bys, Value.oneCell']) (by omega) (by unfold maxLen; omega) (by omega) ?_; intro v' w1 hown hgrow)
  go_ret
  exact ⟨v', rfl, esc_end (ns := [92, 102]) hown hgrow⟩

theorem esc_10 (a : Option Addr) (n : Nat) (zs : List Int) (w : World) (hr : Rd w a n zs) (hn : n ≤ 1048576) :
    Calls Try.prog 24 #[.slice a n n, .int .u8 10] w fun e w' => ∃ v, e = .returned v ∧ w'.ownsRow w.heap.size 5 1 v (n + 2) (bys (zs ++ [92, 110])) ∧ Below w.heap.size w w' := by
  obtain ⟨i0, hi, hz0, hz1, hz2⟩ := info_parts Try.info5
  have HR : Hid (Rd w a n zs) := hr
  clear hr
  go_enter Try.func24, Try.ntmps24
  go_wp2_with (at_builtin; refine wpList_append_grows _ rfl (.tmp 25) (.tmp 26) 24 rfl 5 i0 (.int .u8 0) 1 1 Try.underlying24 hi hz0 hz1 hz2 rfl (by decide) a n n (bys zs) rfl (fun h => ⟨HR.out.2.1 h, HR.out.2.1 h⟩) (by simpa using HR.out.1) (olds_alloc HR.out _) ⟨w.heap.size, 0, none⟩ 2 2 (bys [92, 110]) rfl rfl (news_alloc w _) (by simp [bys, Value.oneCell']) (by omega) (by unfold maxLen; omega) (by omega) ?_; intro v' w1 hown hgrow)
  go_ret
  exact ⟨v', rfl, esc_end (ns := [92, 110]) hown hgrow⟩

theorem esc_13 (a : Option Addr) (n : Nat) (zs : List Int) (w : World) (hr : Rd w a n zs) (hn : n ≤ 1048576) :
    Calls Try.prog 24 #[.slice a n n, .int .u8 13] w fun e w' => ∃ v, e = .returned v ∧ w'.ownsRow w.heap.size 5 1 v (n + 2) (bys (zs ++ [92, 114])) ∧ Below w.heap.size w w' := by
  obtain ⟨i0, hi, hz0, hz1, hz2⟩ := info_parts Try.info5
  have HR : Hid (Rd w a n zs) := hr
  clear hr
  go_enter Try.func24, Try.ntmps24
  go_wp2_with (at_builtin; refine wpList_append_grows _ rfl (.tmp 30) (.tmp 31) 24 rfl 5 i0 (.int .u8 0) 1 1 Try.underlying24 hi hz0 hz1 hz2 rfl (by decide) a n n (bys zs) rfl (fun h => ⟨HR.out.2.1 h, HR.out.2.1 h⟩) (by simpa using HR.out.1) (olds_alloc HR.out _) ⟨w.heap.size, 0, none⟩ 2 2 (bys [92, 114]) rfl rfl (news_alloc w _) (by simp [bys, Value.oneCell']) (by omega) (by unfold maxLen; omega) (by omega) ?_; intro v' w1 hown hgrow)
  go_ret
  exact ⟨v', rfl, esc_end (ns := [92, 114]) hown hgrow⟩

theorem esc_9 (a : Option Addr) (n : Nat) (zs : List Int) (w : World) (hr : Rd w a n zs) (hn : n ≤ 1048576) :
    Calls Try.prog 24 #[.slice a n n, .int .u8 9] w fun e w' => ∃ v, e = .returned v ∧ w'.ownsRow w.heap.size 5 1 v (n + 2) (bys (zs ++ [92, 116])) ∧ Below w.heap.size w w' := by
  obtain ⟨i0, hi, hz0, hz1, hz2⟩ := info_parts Try.info5
  have HR : Hid (Rd w a n zs) := hr
  clear hr
  go_enter Try.func24, Try.ntmps24
  go_wp2_with (at_builtin; refine wpList_append_grows _ rfl (.tmp 35) (.tmp 36) 24 rfl 5 i0 (.int .u8 0) 1 1 Try.underlying24 hi hz0 hz1 hz2 rfl (by decide) a n n (bys zs) rfl (fun h => ⟨HR.out.2.1 h, HR.out.2.1 h⟩) (by simpa using HR.out.1) (olds_alloc HR.out _) ⟨w.heap.size, 0, none⟩ 2 2 (bys [92, 116]) rfl rfl (news_alloc w _) (by simp [bys, Value.oneCell']) (by omega) (by unfold maxLen; omega) (by omega) ?_; intro v' w1 hown hgrow)
  go_ret
  exact ⟨v', rfl, esc_end (ns := [92, 116]) hown hgrow⟩

end Go.Proofs.Qxb6602759a

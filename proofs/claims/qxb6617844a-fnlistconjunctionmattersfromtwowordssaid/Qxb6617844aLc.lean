import Derived.Test.Qxb6617844aPl
import Derived.Laws.CopyOwn
namespace Go.Proofs.Qxb6617844a
open Go.RowKit Go.Sort

theorem Try.info9 : (Try.prog.info? 9).map (fun i => (i.zero, i.size, i.bytes)) = some (some (.string ⟨#[]⟩), 1, 16) := by kernel_rfl
theorem Try.size9 : (Try.prog.info? 9).map (·.size) = some 1 := by kernel_rfl

/-- The new row that 'make' lays. -/
def blank (n : Nat) : Array Value := madeCells #[.string ⟨#[]⟩] n
theorem size_blank (n : Nat) : (blank n).toList.length = n := by simp [blank, size_madeCells]

theorem make_strings (n : Nat) (hn : n ≤ 1048576) (w : World) :
    (Instr.makeSlice 26 (.int .i64 n) (.int .i64 n)).run Try.prog w = .ok (.slice (some ⟨w.heap.size, 0, none⟩) n n) (w.alloc (.cells (blank n).toList.toArray 9)) := by
  obtain ⟨i, hi, hz, hs, hb⟩ := info_parts Try.info9
  have h := run_make (P := Try.prog) w 26 9 i (.string ⟨#[]⟩) Try.underlying26 hi hz .i64 .i64 n n (by omega) (by omega) (by rw [hb]; omega) (by omega)
  rw [h, hs]
  simp [blank, Value.cells]

/-- 'copy' from a slice that came in onto a new row of the same length: the row then holds its cells; of what was there nothing has turned. -/
theorem copied {P : Program} (w : World) (T E ty : TypeId) (a : Addr) (n c : Nat) (zs cs : List Value) (hu : P.underlying T = some (.slice E)) (hs : (P.info? E).map (·.size) = some 1)
    (hz : zs.length = n) (hl : cs.length = n) (hsrc : ∀ j v, cs[j]? = some v → w.cell? (a.add j) = some v) (h1 : ∀ v ∈ cs, v.oneCell' = true) :
    ∃ W, (Builtin.copy_ #[T, T] ty #[.slice (some ⟨w.heap.size, 0, none⟩) n n, .slice (some a) n c]).run P (w.alloc (.cells zs.toArray E)) = .ok (.int .i64 n) W ∧
      W.heap[w.heap.size]? = some (.cells cs.toArray E (0, 0)) ∧ Below w.heap.size w W := by
  have hb : Below w.heap.size w (w.alloc (.cells zs.toArray E)) := (Below.refl _ _).alloc (Nat.le_refl _) _
  have hg : (w.alloc (.cells zs.toArray E)).heap[w.heap.size]? = some (.cells zs.toArray E (0, 0)) := heap_alloc_new w _
  have hsrc' : ∀ j v, cs[j]? = some v → (w.alloc (.cells zs.toArray E)).cell? (a.add j) = some v := fun j v hj => by
    have := hsrc j v hj
    rw [hb.cell (block_lt_of_cell this)]; exact this
  have hrun := run_copy_row (P := P) (w.alloc (.cells zs.toArray E)) T T ty E w.heap.size 0 n n a n c zs.toArray E cs hu hs hg (by simpa using hl) hsrc' (by simp [hl, hz]) h1
  refine ⟨_, by rw [hrun, hl]; rfl, ?_, below_setRow hb (Nat.le_refl _) _⟩
  have e : zs.toArray.toList.take 0 ++ cs ++ zs.toArray.toList.drop (0 + n) = cs := by
    rw [List.drop_eq_nil_of_le (by simp; omega)]; simp
  rw [e]
  exact setRow_heap (w.alloc (.cells zs.toArray E)) w.heap.size zs.toArray cs.toArray E (0, 0) hg

/-- What the law's walk is told of the words. -/
structure Words (w : World) (ao : Option Addr) (n : Nat) (xs : List ByteArray) : Prop where
  len : xs.length = n
  small : n ≤ 9223372036854775807
  at' : ∃ bk o, (0 < n → ao = some ⟨bk, o, none⟩) ∧ ∀ (j : Nat) x, xs[j]? = some x → w.cell? ⟨bk, o + j, none⟩ = some (.string x)
  size : ∀ x ∈ xs, x.size ≤ 9223372036854775807

theorem Words.bytes_cut {w : World} {ao : Option Addr} {n : Nat} {xs : List ByteArray} (h : Words w ao n xs) (k1 : Int) (cj : ByteArray) (c : Nat) (hcj : cj.size ≤ 9223372036854775807) :
    Calls Try.prog 11 #[.slice ao n c, .int .i64 k1, .string cj] w fun e w' => IsBool e ∧ w' = w := by
  obtain ⟨rfl, hl, ⟨bk, o, hao, hc⟩, hs⟩ := h
  exact Qxb6617844a.bytes_cut k1 cj ao bk o c xs w hao hl hc hs hcj

theorem Words.bytes_conj {w : World} {ao : Option Addr} {n : Nat} {xs : List ByteArray} (h : Words w ao n xs) (c1 c2 : ByteArray) (c : Nat) (hc1 : c1.size ≤ 9223372036854775807) (hc2 : c2.size ≤ 9223372036854775807) :
    Calls Try.prog 14 #[.slice ao n c, .string c1, .string c2] w fun e w' => IsBool e ∧ w' = w := by
  obtain ⟨rfl, hl, ⟨bk, o, hao, hc⟩, hs⟩ := h
  exact Qxb6617844a.bytes_conj c1 c2 ao bk o c xs w hao hl hc hs hc1 hc2

theorem Words.words_any {w : World} {ao : Option Addr} {n : Nat} {xs : List ByteArray} (h : Words w ao n xs) (u : Int) (c : Nat) (h0 : 0 ≤ u) (h1 : u ≤ 1048576) :
    Calls Try.prog 12 #[.int .i64 u, .slice ao n c] w fun e w' => (∃ r : Int, e = .returned (.int .i64 r) ∧ (r ≤ 1048576 → u + tot xs ≤ 1048576)) ∧ w' = w := by
  obtain ⟨rfl, hl, ⟨bk, o, hao, hc⟩, hs⟩ := h
  exact Qxb6617844a.words_any u ao bk o c xs w h0 h1 hao hl hc hs

theorem Words.nil {w : World} {n : Nat} {xs : List ByteArray} (h : Words w none n xs) : n = 0 ∧ xs = [] := by
  obtain ⟨rfl, hl, ⟨bk, o, hao, hc⟩, hs⟩ := h
  match xs, hao with
  | [], _ => exact ⟨rfl, rfl⟩
  | x :: r, hao => exact absurd (hao (by simp)) (by simp)

theorem Words.copied {w : World} {a : Addr} {n : Nat} {xs : List ByteArray} (h : Words w (some a) n xs) (c : Nat) :
    ∃ W, (Builtin.copy_ #[26, 26] 3 #[.slice (some ⟨w.heap.size, 0, none⟩) n n, .slice (some a) n c]).run Try.prog (w.alloc (.cells (blank n).toList.toArray 9)) = .ok (.int .i64 n) W ∧
      (∀ (j : Nat) x, xs[j]? = some x → W.cell? ⟨w.heap.size, j, none⟩ = some (.string x)) ∧ w.heap.size < W.heap.size ∧ Below w.heap.size w W := by
  obtain ⟨rfl, hl, ⟨bk, o, hao, hc⟩, hs⟩ := h
  obtain ⟨W, h1, h2, h3⟩ := Qxb6617844a.copied (P := Try.prog) w 26 9 3 a xs.length c (blank xs.length).toList (xs.map Value.string) Try.underlying26 Try.size9 (size_blank _) (by simp)
    (fun j v hj => by
      have hlt : j < xs.length := by have := (List.getElem?_eq_some_iff.1 hj).1; simpa using this
      have ha := hao (by omega)
      simp only [Option.some.injEq] at ha
      subst ha
      rw [List.getElem?_map] at hj
      cases hx : xs[j]? with
      | none => rw [hx] at hj; simp at hj
      | some x => rw [hx] at hj; simp at hj; subst hj; show w.cell? ((⟨bk, o, .none⟩ : Addr).add j) = _; rw [WideShapes.add_plain]; exact hc j x hx)
    (fun v hv => by simp at hv; obtain ⟨x, _, rfl⟩ := hv; rfl)
  refine ⟨W, h1, fun j x hx => ?_, (Array.getElem?_eq_some_iff.1 h2).1, h3⟩
  simp [World.cell?, h2, hx]

set_option maxHeartbeats 400000 in
theorem cut_zero (a : Addr) (c n : Nat) (k : Int) (xs : List ByteArray) (cj : ByteArray) (w : World) (h : Words w (some a) n xs) (hcj : cj.size ≤ 9223372036854775807) (h1 : n ≤ 4096) (h2 : cj.size ≤ 1048576) (hn : n < 1) :
    Calls Try.prog 5 #[.slice (some a) n c, .int .i64 k, .string cj] w fun e w' => e = .returned (.bool true) ∧ Below w.heap.size w w' := by
  have H11 := h.bytes_cut k cj c hcj
  have H12 := h.words_any cj.size c (by omega) (by omega)
  have hnil := fun w => run_neq_slice_nil_any (P := Try.prog) w 26 9 (some a) n c 0 0 Try.underlying26
  have hmk := make_strings n (by omega)
  obtain ⟨W, hcp, hcW, hsz, hbW⟩ := h.copied c
  have HC : Hid (∀ (j : Nat) x, xs[j]? = some x → W.cell? ⟨w.heap.size, j, none⟩ = some (.string x)) := hcW
  have HL : Hid (xs.length = n) := h.len
  clear h hcW
  go_enter Try.func5, Try.ntmps5
  go_wp2_with fail
  refine H11.mono ?_
  rintro e w' ⟨⟨b, rfl⟩, hw⟩
  subst w'
  cases b
  · go_wp2
    go_ret
    exact ⟨rfl, Below.refl _ _⟩
  go_wp2_with fail
  refine H12.mono ?_
  rintro e w' ⟨⟨r, rfl, hr⟩, hw⟩
  subst w'
  by_cases h3 : r ≤ 1048576
  case neg =>
    go_wp2
    go_ret
    exact ⟨rfl, Below.refl _ _⟩
  have hT := hr h3
  clear hr H11 H12
  go_wp2_with (go_at_call 13; refine (list_none _ _ _ _ _ (by omega)).mono ?_; rintro e w' ⟨rfl, hb⟩)
  go_ret
  exact ⟨rfl, hbW.trans (Below.mono (by assumption) (by omega))⟩

set_option maxHeartbeats 400000 in
theorem cut_one (a : Addr) (c n : Nat) (k : Int) (xs : List ByteArray) (cj : ByteArray) (w : World) (h : Words w (some a) n xs) (hcj : cj.size ≤ 9223372036854775807) (h1 : n ≤ 4096) (h2 : cj.size ≤ 1048576) (hn : 1 ≤ n) (hn1 : n ≤ 1) :
    Calls Try.prog 5 #[.slice (some a) n c, .int .i64 k, .string cj] w fun e w' => e = .returned (.bool true) ∧ Below w.heap.size w w' := by
  have H11 := h.bytes_cut k cj c hcj
  have H12 := h.words_any cj.size c (by omega) (by omega)
  have hnil := fun w => run_neq_slice_nil_any (P := Try.prog) w 26 9 (some a) n c 0 0 Try.underlying26
  have hmk := make_strings n (by omega)
  obtain ⟨W, hcp, hcW, hsz, hbW⟩ := h.copied c
  have HC : Hid (∀ (j : Nat) x, xs[j]? = some x → W.cell? ⟨w.heap.size, j, none⟩ = some (.string x)) := hcW
  have HL : Hid (xs.length = n) := h.len
  clear h hcW
  obtain ⟨x, hx⟩ : ∃ x, xs[0]? = some x := ⟨_, List.getElem?_eq_getElem (by rw [HL.out]; omega)⟩
  have hx0 := HC.out 0 x hx
  have kx := cell_regrown hx0
  have cQ : ∀ d os, Calls Try.prog 13 #[.slice (some ⟨w.heap.size, 0, none⟩) n n, .string cj] (grow (redrawn W d) os) fun e w'' => e = .returned (.string x) ∧ ∃ p : Regrown, w'' = grow (redrawn W p.d) p.os := 
    fun d os => Calls.regrown_of (list_one w.heap.size 0 n n x cj _ hn hn1 (kx d os))
  clear hx
  go_enter Try.func5, Try.ntmps5
  go_wp2_with fail
  refine H11.mono ?_
  rintro e w' ⟨⟨b, rfl⟩, hw⟩
  subst w'
  cases b
  · go_wp2
    go_ret
    exact ⟨rfl, Below.refl _ _⟩
  go_wp2_with fail
  refine H12.mono ?_
  rintro e w' ⟨⟨r, rfl, hr⟩, hw⟩
  subst w'
  by_cases h3 : r ≤ 1048576
  case neg =>
    go_wp2
    go_ret
    exact ⟨rfl, Below.refl _ _⟩
  have hT := hr h3
  clear hr H11 H12
  go_wp2_with fail
  refine wp_region_quiet_below (by kernel_rfl) (by kernel_rfl) ?_
  repeat (first | go_big_quiet_step (exact cQ _ _) | quiet_step (exact cQ _ _))
  refine wpQuiet_nil ?_
  intro _ hw'
  obtain ⟨⟨dq, osq⟩, hw''⟩ := hw'
  subst hw''
  go_wp2
  go_ret
  exact ⟨rfl, hbW.trans ((below_regrown W dq osq).mono (by omega))⟩

set_option maxHeartbeats 400000 in
theorem cut_out (a : Addr) (c n : Nat) (k : Int) (xs : List ByteArray) (cj : ByteArray) (w : World) (h : Words w (some a) n xs) (hcj : cj.size ≤ 9223372036854775807) (h1 : n ≤ 4096) (h2 : cj.size ≤ 1048576) (hn : 2 ≤ n) (hk : k < 0 ∨ (n : Int) - 2 < k) :
    Calls Try.prog 5 #[.slice (some a) n c, .int .i64 k, .string cj] w fun e w' => e = .returned (.bool true) ∧ Below w.heap.size w w' := by
  have H11 := h.bytes_cut k cj c hcj
  have H12 := h.words_any cj.size c (by omega) (by omega)
  have hnil := fun w => run_neq_slice_nil_any (P := Try.prog) w 26 9 (some a) n c 0 0 Try.underlying26
  have hmk := make_strings n (by omega)
  obtain ⟨W, hcp, hcW, hsz, hbW⟩ := h.copied c
  have HC : Hid (∀ (j : Nat) x, xs[j]? = some x → W.cell? ⟨w.heap.size, j, none⟩ = some (.string x)) := hcW
  have HL : Hid (xs.length = n) := h.len
  clear h hcW
  go_enter Try.func5, Try.ntmps5
  go_wp2_with fail
  refine H11.mono ?_
  rintro e w' ⟨⟨b, rfl⟩, hw⟩
  subst w'
  cases b
  · go_wp2
    go_ret
    exact ⟨rfl, Below.refl _ _⟩
  go_wp2_with fail
  refine H12.mono ?_
  rintro e w' ⟨⟨r, rfl, hr⟩, hw⟩
  subst w'
  by_cases h3 : r ≤ 1048576
  case neg =>
    go_wp2
    go_ret
    exact ⟨rfl, Below.refl _ _⟩
  have hT := hr h3
  clear hr H11 H12
  rcases hk with hk | hk
  · go_wp2
    go_ret
    exact ⟨rfl, hbW⟩
  · go_wp2
    go_ret
    exact ⟨rfl, hbW⟩

end Go.Proofs.Qxb6617844a

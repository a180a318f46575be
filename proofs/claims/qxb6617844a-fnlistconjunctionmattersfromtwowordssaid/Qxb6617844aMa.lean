import Derived.Test.Qxb6617844aLe
namespace Go.Proofs.Qxb6617844a
open Go.ChangeShapes Go.WideShapes Go.ChangeAt Go.RowKit Go.Sort
open Go.ChangeMaps (open_string shut_string)

theorem toList_ne {a b : ByteArray} (h : a ≠ b) : (a.toList == b.toList) = false := by
  rw [beq_eq_false_iff_ne]
  intro e
  apply h
  rw [Lib.toList_data, Lib.toList_data] at e
  exact ba_ext e

set_option maxRecDepth 100000 in
set_option maxHeartbeats 400000 in
theorem conj_zero (a : Addr) (c n : Nat) (xs : List ByteArray) (c1 c2 : ByteArray) (w : World) (h : Words w (some a) n xs) (h1 : n ≤ 4096) (h2 : c1.size ≤ 1048576) (h3 : c2.size ≤ 1048576) (hn : n < 1) :
    Calls Try.prog 6 #[.slice (some a) n c, .string c1, .string c2] w fun e w' => e = .returned (.bool true) ∧ Below w.heap.size w w' := by
  have H14 := h.bytes_conj c1 c2 c (by omega) (by omega)
  have hnil := fun w => run_neq_slice_nil_any (P := Try.prog) w 26 9 (some a) n c 0 0 Try.underlying26
  have hmk := make_strings n (by omega)
  obtain ⟨W, hcp, hcW, hsz, hbW⟩ := h.copied c
  have HC : Hid (∀ (j : Nat) x, xs[j]? = some x → W.cell? ⟨w.heap.size, j, none⟩ = some (.string x)) := hcW
  have hWW : Words W (some ⟨w.heap.size, 0, none⟩) n xs := ⟨h.len, h.small, ⟨w.heap.size, 0, fun _ => rfl, fun j x hx => by rw [Nat.zero_add]; exact hcW j x hx⟩, h.size⟩
  have HL : Hid (xs.length = n) := h.len
  have H12 : Hid (∀ u : Int, 0 ≤ u → u ≤ 1048576 → Calls Try.prog 12 #[.int .i64 u, .slice (some ⟨w.heap.size, 0, none⟩) n n] W fun e w' => (∃ r : Int, e = .returned (.int .i64 r) ∧ (r ≤ 1048576 → u + tot xs ≤ 1048576)) ∧ w' = W) := fun u h0 h1 => hWW.words_any u _ h0 h1
  clear h hcW hWW
  go_enter Try.func6, Try.ntmps6
  go_wp2_with fail
  refine H14.mono ?_
  rintro e w' ⟨⟨b, rfl⟩, hw⟩
  subst w'
  cases b
  · go_wp2
    go_ret
    exact ⟨rfl, Below.refl _ _⟩
  by_cases hu : 1048576 < c1.size + c2.size
  · go_wp2
    go_ret
    exact ⟨rfl, hbW⟩
  go_wp2_with fail
  refine (H12.out _ (by omega) (by omega)).mono ?_
  rintro e w' ⟨⟨r, rfl, hr⟩, hw⟩
  subst w'
  by_cases h4 : r ≤ 1048576
  case neg =>
    go_wp2
    go_ret
    exact ⟨rfl, hbW⟩
  have hT := hr h4
  clear hr H14 H12
  go_wp2_with fail
  refine (list_none _ _ _ _ _ (by omega)).mono ?_
  rintro e w1 ⟨rfl, hb1⟩
  have hz1 := hb1.size
  go_wp2_with fail
  refine (list_none _ _ _ _ _ (by omega)).mono ?_
  rintro e w2 ⟨rfl, hb2⟩
  go_wp2
  go_ret
  exact ⟨rfl, hbW.trans ((hb1.mono (by omega)).trans (hb2.mono (by omega)))⟩

set_option maxRecDepth 100000 in
set_option maxHeartbeats 400000 in
theorem conj_one (a : Addr) (c n : Nat) (xs : List ByteArray) (c1 c2 : ByteArray) (w : World) (h : Words w (some a) n xs) (h1 : n ≤ 4096) (h2 : c1.size ≤ 1048576) (h3 : c2.size ≤ 1048576) (hn : 1 ≤ n) (hn1 : n ≤ 1) :
    Calls Try.prog 6 #[.slice (some a) n c, .string c1, .string c2] w fun e w' => e = .returned (.bool true) ∧ Below w.heap.size w w' := by
  have H14 := h.bytes_conj c1 c2 c (by omega) (by omega)
  have hnil := fun w => run_neq_slice_nil_any (P := Try.prog) w 26 9 (some a) n c 0 0 Try.underlying26
  have hmk := make_strings n (by omega)
  obtain ⟨W, hcp, hcW, hsz, hbW⟩ := h.copied c
  have HC : Hid (∀ (j : Nat) x, xs[j]? = some x → W.cell? ⟨w.heap.size, j, none⟩ = some (.string x)) := hcW
  have hWW : Words W (some ⟨w.heap.size, 0, none⟩) n xs := ⟨h.len, h.small, ⟨w.heap.size, 0, fun _ => rfl, fun j x hx => by rw [Nat.zero_add]; exact hcW j x hx⟩, h.size⟩
  have HL : Hid (xs.length = n) := h.len
  have H12 : Hid (∀ u : Int, 0 ≤ u → u ≤ 1048576 → Calls Try.prog 12 #[.int .i64 u, .slice (some ⟨w.heap.size, 0, none⟩) n n] W fun e w' => (∃ r : Int, e = .returned (.int .i64 r) ∧ (r ≤ 1048576 → u + tot xs ≤ 1048576)) ∧ w' = W) := fun u h0 h1 => hWW.words_any u _ h0 h1
  clear h hcW hWW
  obtain ⟨x, hx⟩ : ∃ x, xs[0]? = some x := ⟨_, List.getElem?_eq_getElem (by rw [HL.out]; omega)⟩
  have hx0 := HC.out 0 x hx
  clear hx
  go_enter Try.func6, Try.ntmps6
  go_wp2_with fail
  refine H14.mono ?_
  rintro e w' ⟨⟨b, rfl⟩, hw⟩
  subst w'
  cases b
  · go_wp2
    go_ret
    exact ⟨rfl, Below.refl _ _⟩
  by_cases hu : 1048576 < c1.size + c2.size
  · go_wp2
    go_ret
    exact ⟨rfl, hbW⟩
  go_wp2_with fail
  refine (H12.out _ (by omega) (by omega)).mono ?_
  rintro e w' ⟨⟨r, rfl, hr⟩, hw⟩
  subst w'
  by_cases h4 : r ≤ 1048576
  case neg =>
    go_wp2
    go_ret
    exact ⟨rfl, hbW⟩
  have hT := hr h4
  clear hr H14 H12
  go_wp2_with fail
  refine (list_one _ 0 _ _ x _ _ hn hn1 hx0).mono ?_
  rintro e w1 ⟨rfl, hb1⟩
  have hz1 := hb1.size
  have hx1 : w1.cell? ⟨w.heap.size, 0, none⟩ = some (.string x) := (hb1.cell (p := ⟨w.heap.size, 0, none⟩) hsz).trans hx0
  go_wp2_with fail
  refine (list_one _ 0 _ _ x _ _ hn hn1 hx1).mono ?_
  rintro e w2 ⟨rfl, hb2⟩
  have hx2 : w2.cell? ⟨w.heap.size, 0, none⟩ = some (.string x) := (hb2.cell (p := ⟨w.heap.size, 0, none⟩) (Nat.lt_of_lt_of_le hsz hz1)).trans hx1
  go_wp2
  go_ret
  exact ⟨rfl, hbW.trans ((hb1.mono (by omega)).trans (hb2.mono (by omega)))⟩

set_option maxRecDepth 100000 in
set_option maxHeartbeats 400000 in
theorem conj_main (a : Addr) (c n : Nat) (xs : List ByteArray) (c1 c2 : ByteArray) (w : World) (h : Words w (some a) n xs) (h1 : n ≤ 4096) (h2 : c1.size ≤ 1048576) (h3 : c2.size ≤ 1048576) (hn : 2 ≤ n) :
    Calls Try.prog 6 #[.slice (some a) n c, .string c1, .string c2] w fun e w' => e = .returned (.bool true) ∧ Below w.heap.size w w' := by
  have H14 := h.bytes_conj c1 c2 c (by omega) (by omega)
  have hnil := fun w => run_neq_slice_nil_any (P := Try.prog) w 26 9 (some a) n c 0 0 Try.underlying26
  have hmk := make_strings n (by omega)
  obtain ⟨W, hcp, hcW, hsz, hbW⟩ := h.copied c
  have HC : Hid (∀ (j : Nat) x, xs[j]? = some x → W.cell? ⟨w.heap.size, j, none⟩ = some (.string x)) := hcW
  have hWW : Words W (some ⟨w.heap.size, 0, none⟩) n xs := ⟨h.len, h.small, ⟨w.heap.size, 0, fun _ => rfl, fun j x hx => by rw [Nat.zero_add]; exact hcW j x hx⟩, h.size⟩
  have HL : Hid (xs.length = n) := h.len
  have H12 : Hid (∀ u : Int, 0 ≤ u → u ≤ 1048576 → Calls Try.prog 12 #[.int .i64 u, .slice (some ⟨w.heap.size, 0, none⟩) n n] W fun e w' => (∃ r : Int, e = .returned (.int .i64 r) ∧ (r ≤ 1048576 → u + tot xs ≤ 1048576)) ∧ w' = W) := fun u h0 h1 => hWW.words_any u _ h0 h1
  clear h hcW hWW
  go_enter Try.func6, Try.ntmps6
  go_wp2_with fail
  refine H14.mono ?_
  rintro e w' ⟨⟨b, rfl⟩, hw⟩
  subst w'
  cases b
  · go_wp2
    go_ret
    exact ⟨rfl, Below.refl _ _⟩
  by_cases hu : 1048576 < c1.size + c2.size
  · go_wp2
    go_ret
    exact ⟨rfl, hbW⟩
  go_wp2_with fail
  refine (H12.out _ (by omega) (by omega)).mono ?_
  rintro e w' ⟨⟨r, rfl, hr⟩, hw⟩
  subst w'
  by_cases h4 : r ≤ 1048576
  case neg =>
    go_wp2
    go_ret
    exact ⟨rfl, hbW⟩
  have hT := hr h4
  clear hr H14 H12
  go_wp2_with fail
  refine (list_ge2 w.heap.size 0 n n xs c1 W HL.out hn (Nat.le_refl _) (by omega) hsz (fun j x hx => by rw [Nat.zero_add]; exact HC.out j x hx) (by omega)).mono ?_
  rintro e w1 ⟨rfl, hb1⟩
  have hz1 := hb1.size
  have HC1 : Hid (∀ (j : Nat) x, xs[j]? = some x → w1.cell? ⟨w.heap.size, j, none⟩ = some (.string x)) := fun j x hx => (hb1.cell (p := ⟨w.heap.size, j, none⟩) hsz).trans (HC.out j x hx)
  go_wp2_with fail
  refine (list_ge2 w.heap.size 0 n n xs c2 w1 HL.out hn (Nat.le_refl _) (by omega) (Nat.lt_of_lt_of_le hsz hz1) (fun j x hx => by rw [Nat.zero_add]; exact HC1.out j x hx) (by omega)).mono ?_
  rintro e w2 ⟨rfl, hb2⟩
  have hB2 : Below w.heap.size w w2 := hbW.trans ((hb1.mono (by omega)).trans (hb2.mono (by omega)))
  have hne := listB_conj xs c1 c2
  clear HC HC1 hb1 hb2 hbW
  by_cases he : c1 = c2
  · subst he
    go_wp2
    go_ret
    exact ⟨rfl, hB2⟩
  · have hl : listB xs c1 ≠ listB xs c2 := fun h => he (hne h)
    clear hne
    generalize listB xs c1 = L1 at *
    generalize listB xs c2 = L2 at *
    have hl' := toList_ne hl
    have he' := toList_ne he
    clear hl he
    go_wp2
    go_ret
    exact ⟨rfl, hB2⟩

set_option maxRecDepth 100000 in
set_option maxHeartbeats 400000 in
theorem conj_nil (c n : Nat) (xs : List ByteArray) (c1 c2 : ByteArray) (w : World) (h : Words w none n xs) (h2 : c1.size ≤ 1048576) (h3 : c2.size ≤ 1048576) :
    Calls Try.prog 6 #[.slice none n c, .string c1, .string c2] w fun e w' => e = .returned (.bool true) ∧ Below w.heap.size w w' := by
  have H14 := h.bytes_conj c1 c2 c (by omega) (by omega)
  have H12 : Hid (∀ u : Int, 0 ≤ u → u ≤ 1048576 → Calls Try.prog 12 #[.int .i64 u, .slice none n c] w fun e w' => (∃ r : Int, e = .returned (.int .i64 r) ∧ (r ≤ 1048576 → u + tot xs ≤ 1048576)) ∧ w' = w) := fun u h0 h1 => h.words_any u _ h0 h1
  have hn : n < 1 := by have := h.nil; omega
  have hnil := fun w => run_neq_slice_nil_any (P := Try.prog) w 26 9 none n c 0 0 Try.underlying26
  clear h
  go_enter Try.func6, Try.ntmps6
  go_wp2_with fail
  refine H14.mono ?_
  rintro e w' ⟨⟨b, rfl⟩, hw⟩
  subst w'
  cases b
  · go_wp2
    go_ret
    exact ⟨rfl, Below.refl _ _⟩
  by_cases hu : 1048576 < c1.size + c2.size
  · go_wp2
    go_ret
    exact ⟨rfl, Below.refl _ _⟩
  go_wp2_with fail
  refine (H12.out _ (by omega) (by omega)).mono ?_
  rintro e w' ⟨⟨r, rfl, hr⟩, hw⟩
  subst w'
  by_cases h4 : r ≤ 1048576
  case neg =>
    go_wp2
    go_ret
    exact ⟨rfl, Below.refl _ _⟩
  clear hr H14 H12
  go_wp2_with fail
  refine (list_none _ _ _ _ _ (by omega)).mono ?_
  rintro e w1 ⟨rfl, hb1⟩
  have hz1 := hb1.size
  go_wp2_with fail
  refine (list_none _ _ _ _ _ (by omega)).mono ?_
  rintro e w2 ⟨rfl, hb2⟩
  go_wp2
  go_ret
  exact ⟨rfl, hb1.trans (hb2.mono (by omega))⟩

set_option maxHeartbeats 400000 in
theorem conj_big (ao : Option Addr) (c n : Nat) (xs : List ByteArray) (c1 c2 : ByteArray) (w : World) (h : Words w ao n xs) (hc1 : c1.size ≤ 9223372036854775807) (hc2 : c2.size ≤ 9223372036854775807) (hbig : 4096 < n ∨ 1048576 < c1.size ∨ 1048576 < c2.size) :
    Calls Try.prog 6 #[.slice ao n c, .string c1, .string c2] w fun e w' => e = .returned (.bool true) ∧ Below w.heap.size w w' := by
  have H14 := h.bytes_conj c1 c2 c hc1 hc2
  have hs := h.small
  clear h
  by_cases h1 : 4096 < n
  · clear hbig
    go_enter Try.func6, Try.ntmps6
    go_wp2_with fail
    refine H14.mono ?_
    rintro e w' ⟨⟨b, rfl⟩, hw⟩
    subst w'
    cases b
    all_goals
      go_wp2
      go_ret
      exact ⟨rfl, Below.refl _ _⟩
  · by_cases h2 : 1048576 < c1.size
    · clear hbig
      go_enter Try.func6, Try.ntmps6
      go_wp2_with fail
      refine H14.mono ?_
      rintro e w' ⟨⟨b, rfl⟩, hw⟩
      subst w'
      cases b
      all_goals
        go_wp2
        go_ret
        exact ⟨rfl, Below.refl _ _⟩
    · have h3 : 1048576 < c2.size := by omega
      clear hbig
      go_enter Try.func6, Try.ntmps6
      go_wp2_with fail
      refine H14.mono ?_
      rintro e w' ⟨⟨b, rfl⟩, hw⟩
      subst w'
      cases b
      all_goals
        go_wp2
        go_ret
        exact ⟨rfl, Below.refl _ _⟩

theorem conj_any (ao : Option Addr) (c n : Nat) (xs : List ByteArray) (c1 c2 : ByteArray) (w : World) (h : Words w ao n xs) (hc1 : c1.size ≤ 9223372036854775807) (hc2 : c2.size ≤ 9223372036854775807) :
    Calls Try.prog 6 #[.slice ao n c, .string c1, .string c2] w fun e w' => e = .returned (.bool true) ∧ Below w.heap.size w w' := by
  by_cases hbig : 4096 < n ∨ 1048576 < c1.size ∨ 1048576 < c2.size
  · exact conj_big ao c n xs c1 c2 w h hc1 hc2 hbig
  · have h1 : n ≤ 4096 := by omega
    have h2 : c1.size ≤ 1048576 := by omega
    have h3 : c2.size ≤ 1048576 := by omega
    cases ao with
    | none => exact conj_nil c n xs c1 c2 w h h2 h3
    | some a =>
      by_cases hn0 : n < 1
      · exact conj_zero a c n xs c1 c2 w h h1 h2 h3 hn0
      by_cases hn1 : n ≤ 1
      · exact conj_one a c n xs c1 c2 w h h1 h2 h3 (by omega) hn1
      exact conj_main a c n xs c1 c2 w h h1 h2 h3 (by omega)

set_option maxRecDepth 100000 in
theorem conj_lifted (os : Os) (started : os.Started) (H : Type) (enc : TypeId × Value → H) :
    ReturnsInHanded {} Try.checked os 6 .any (Rows.fnListConjunctionMattersFromTwoWordsSpec.pre6 enc Try.prog Try.f6 Rows.fnListConjunctionMattersFromTwoWordsRow.domain false) (Rows.fnListConjunctionMattersFromTwoWordsSpec.post enc Try.prog Try.f6 false true false false) := by
  refine returnsInHanded_of_change (C := Try.checked) own started (by kernel_rfl) Try.func6
    (ChangeSpec.witness6 (enc := enc) (C := Try.checked) false ⟨#[], #[.slice none 0 0, .string ⟨#[]⟩, .string ⟨#[]⟩], []⟩ 8 (by kernel_rfl) (by kernel_rfl) (by kernel_rfl) (by kernel_rfl)) ?_
  intro W base args ds gs before hval0 hW hcnd _
  have hval : ∀ (j : Nat) t v, Try.f6.params[j]? = some t → args[j]? = some v → Value.okWide Try.prog W .any base t v := hval0
  have hW' := hW
  obtain ⟨p, q, hA0, hV, rfl, hfz, hnd⟩ := hW
  have hA : DataW.TrodAll enc Try.prog W 0 (fun _ => true) true Try.f6.params.toList args.toList ds p := hA0
  rw [Try.params6] at hA hval
  obtain ⟨v0, vs0, d0, ds0, p0, q0, hargs, rfl, rfl, h0, r0⟩ := trodAll_cons hA
  obtain ⟨v1, vs1, d1, ds1, p1, q1, rfl, rfl, rfl, h1, r1⟩ := trodAll_cons r0
  obtain ⟨v2, vs2, d2, ds2, p2, q2, rfl, rfl, rfl, h2, r2⟩ := trodAll_cons r1
  obtain ⟨rfl, rfl, rfl⟩ := trodAll_nil r2
  obtain rfl : args = #[v0, v1, v2] := by cases args; simp_all
  obtain ⟨rfl, rfl⟩ := trodVars_none hV
  obtain ⟨a0, len0, cap0, rfl⟩ := okWide_slice Try.underlying26 (hval 0 26 v0 rfl rfl)
  have k0 := h0
  have lt0 : ∀ x ∈ p0, x.block < W.heap.size := by obtain ⟨m, hm⟩ := k0; exact DataW.trod_lt m _ _ _ hm
  obtain ⟨xs, w0⟩ : ∃ xs, Words W a0 len0 xs := by
    obtain ⟨fuel, hf⟩ := h0
    exact words_of hf
  obtain ⟨s1, rfl, rfl, rfl, w1⟩ := open_string Try.underlying9 (hval 1 9 v1 rfl rfl) h1
  obtain ⟨s2, rfl, rfl, rfl, w2⟩ := open_string Try.underlying9 (hval 2 9 v2 rfl rfl) h2
  clear hA0 hval0
  refine (conj_any a0 cap0 len0 xs s1 s2 W w0 (by unfold maxLen at w1; exact w1) (by unfold maxLen at w2; exact w2)).mono fun e W' ⟨he, bel⟩ => ?_
  subst he
  exact ⟨_, rfl, _, _, _, [], _, [], hW', trodAll_mk1 (shut_bool Try.underlying4 _), (trodAll_cons_mk (Below.trod laidOut (by kernel_rfl) (of_decide_eq_true (by kernel_rfl)) k0 bel lt0) (trodAll_cons_mk (shut_string Try.underlying9 w1) (trodAll_cons_mk (shut_string Try.underlying9 w2) trodAll_mk0))), rfl, bel.frame _, fun h => by cases h⟩

theorem conj_proved : Rows.FnListConjunctionMattersFromTwoWordsSaid :=
  OpenClaim.holds_of_wide 6 Try.f6 rfl rfl rfl rfl rfl rfl rfl ⟨rfl, rfl, rfl, rfl, rfl⟩ rfl rfl rfl rfl rfl (by kernel_rfl) Try.func6 (by kernel_rfl)
    (of_decide_eq_true (by kernel_rfl)) (by unfold Func.isWrapper; first | (rw [if_pos (by decide +kernel)]; kernel_rfl) | (rw [if_neg (by decide +kernel)]; exact ⟨rfl, rfl⟩))
    (fun os started H enc _ => conj_lifted os started H enc)

end Go.Proofs.Qxb6617844a

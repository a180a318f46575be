import Derived.Test.Qxb6617844aLc
namespace Go.Proofs.Qxb6617844a
open Go.RowKit Go.Sort

/-- 'List' of the copied words from place o on, in every world behind W. -/
theorem calls_from {W : World} {g m o : Nat} {xs : List ByteArray} {cj : ByteArray} (HC : ∀ (j : Nat) x, xs[j]? = some x → W.cell? ⟨g, j, none⟩ = some (.string x)) (hL : xs.length = m + 2) (hT : (cj.size : Int) + tot xs ≤ 1048576)
    (ho : o ≤ m) (hm : m ≤ 4096) (hg : g < W.heap.size) (len cap : Nat) (hlen : len = m + 2 - o) (hcap : cap = m + 2 - o) (d : Nat) (os : Array Obj) :
    Calls Try.prog 13 #[.slice (some ⟨g, o, none⟩) len cap, .string cj] (grow (redrawn W d) os) fun e w'' => e = .returned (.string (listB (xs.drop o) cj)) ∧ ∃ p : Regrown, w'' = grow (redrawn W p.d) p.os := by
  have ht := tot_drop_le xs o
  refine Calls.regrown_of (list_ge2 g o cap len (xs.drop o) cj _ (by simp; omega) (by omega) (by omega) (by omega) (Nat.lt_of_lt_of_le hg (below_regrown W d os).size) ?_ (by omega))
  intro j x hx
  rw [List.getElem?_drop] at hx
  exact cell_regrown (HC (o + j) x hx) d os

set_option maxRecDepth 100000 in
set_option maxHeartbeats 1000000 in
theorem cut_main (a : Addr) (c m : Nat) (k : Nat) (xs : List ByteArray) (cj : ByteArray) (w : World) (h : Words w (some a) (m + 2) xs) (hcj : cj.size ≤ 9223372036854775807) (h1 : (m + 2) ≤ 4096) (h2 : cj.size ≤ 1048576) (hk : k ≤ m) :
    Calls Try.prog 5 #[.slice (some a) (m + 2) c, .int .i64 k, .string cj] w fun e w' => e = .returned (.bool true) ∧ Below w.heap.size w w' := by
  have H11 := h.bytes_cut k cj c hcj
  have H12 := h.words_any cj.size c (by omega) (by omega)
  have hnil := fun w => run_neq_slice_nil_any (P := Try.prog) w 26 9 (some a) (m + 2) c 0 0 Try.underlying26
  have hmk := make_strings (m + 2) (by omega)
  obtain ⟨W, hcp, hcW, hsz, hbW⟩ := h.copied c
  have HC : Hid (∀ (j : Nat) x, xs[j]? = some x → W.cell? ⟨w.heap.size, j, none⟩ = some (.string x)) := hcW
  have HL : Hid (xs.length = (m + 2)) := h.len
  clear h hcW
  have em : ((m + 2 : Nat) : Int) = (m : Int) + 2 := by omega
  rw [em] at hmk
  go_enter Try.func5, Try.ntmps5
  go_wp2_with fail
  refine H11.mono ?_
  rintro e w' ⟨⟨b, rfl⟩, hw⟩
  subst w'
  cases b
  · go_wp2
    go_ret
    exact ⟨rfl, Below.refl _ _⟩
  go_wp2_with fail
  refine H12.mono ?_
  rintro e w' ⟨⟨r, rfl, hr⟩, hw⟩
  subst w'
  by_cases h3 : r ≤ 1048576
  case neg =>
    go_wp2
    go_ret
    exact ⟨rfl, Below.refl _ _⟩
  have hT := hr h3
  clear hr H11 H12
  go_wp2_with fail
  go_loop [8, 9] (fun p i => ∃ j : Nat, j ≤ k ∧ i = .int .i64 j ∧ p = .string (preB (xs.take j))) (fun _ i => k - (intOf i).toNat)
  case atStart => exact ⟨0, Nat.zero_le _, rfl, rfl⟩
  case round =>
    obtain ⟨j, hj, rfl, rfl⟩ := hrel
    have hps := preB_size (xs.take j)
    have hpt := tot_take_le xs j
    by_cases hlt : j < k
    · obtain ⟨x, hx⟩ : ∃ x, xs[j]? = some x := ⟨_, List.getElem?_eq_getElem (by rw [HL.out]; omega)⟩
      have hcx := HC.out j x hx
      have hsn := preB_snoc xs j x hx
      have HN : Hid (preB (xs.take (j + 1)) = preB (xs.take j) ++ x ++ ⟨#[44, 32]⟩) := hsn
      have hts := tot_take_succ xs j x hx
      have htl := tot_take_le xs (j + 1)
      have hxs : x.size ≤ 1048576 := by omega
      have hps1 : (preB (xs.take j)).size ≤ 1048576 := by omega
      have n1 : ¬ 9223372036854775807 < (preB (xs.take j)).size + x.size := by omega
      have n2 : ¬ 9223372036854775807 < (preB (xs.take j)).size + x.size + 2 := by omega
      clear hx hsn hts htl hps hpt
      go_wp2
      go_round
      case rel => exact ⟨j + 1, by omega, by go_num, by rw [HN.out]⟩
      case measure => simp [intOf]; omega
    · obtain rfl : j = k := by omega
      obtain ⟨x, hx⟩ : ∃ x, xs[m]? = some x := ⟨_, List.getElem?_eq_getElem (by rw [HL.out]; omega)⟩
      obtain ⟨y, hy⟩ : ∃ y, xs[m + 1]? = some y := ⟨_, List.getElem?_eq_getElem (by rw [HL.out]; omega)⟩
      have kx := cell_regrown (HC.out m x hx)
      have ky := cell_regrown (HC.out (m + 1) y hy)
      have cQ1 := fun d os => calls_from (o := 0) HC.out HL.out hT (Nat.zero_le _) (by omega) hsz (m + 2) (m + 2) rfl rfl d os
      have cQ2 := fun len cap h1 h2 d os => calls_from (o := j) HC.out HL.out hT hk (by omega) hsz len cap h1 h2 d os
      have cQ3 := fun len cap h1 h2 d os => calls_from (o := m) HC.out HL.out hT (Nat.le_refl _) (by omega) hsz len cap h1 h2 d os
      have hls := listB_size (xs.drop j) cj (by intro h; have := congrArg List.length h; simp [HL.out] at this; omega)
      have htd := tot_drop_le xs j
      have hxt : x.size ≤ tot xs := by
        have h1 := tot_take_succ xs m x hx
        have h2 := tot_take_le xs (m + 1)
        omega
      have hyt : y.size ≤ tot xs := by
        have h1 := tot_take_succ xs (m + 1) y hy
        have h2 := tot_take_le xs (m + 1 + 1)
        omega
      rw [List.drop_zero, listB_cut xs j cj (by rw [HL.out]; omega)] at cQ1
      rw [drop_two xs m x y HL.out hx hy, listB_two] at cQ3
      have HL2 : (listB (xs.drop j) cj).size ≤ 2097152 := by omega
      have HP : (preB (xs.take j)).size ≤ 1048576 := by omega
      generalize listB (xs.drop j) cj = L2 at *
      generalize preB (xs.take j) = PR at *
      have n0 : ¬ 9223372036854775807 < PR.size + L2.size := by omega
      have n1 : ¬ 9223372036854775807 < x.size + 1 := by omega
      have n2 : ¬ 9223372036854775807 < x.size + 1 + cj.size := by omega
      have n3 : ¬ 9223372036854775807 < x.size + 1 + cj.size + 1 := by omega
      have n4 : ¬ 9223372036854775807 < x.size + 1 + cj.size + 1 + y.size := by omega
      clear hx hy hls htd hxt hyt hps hpt HL2 HP HC HL
      go_wp2_with fail
      refine wp_region_quiet_below (by kernel_rfl) (by kernel_rfl) ?_
      iterate 3 (go_big_quiet_step (exact cQ1 _ _))
      iterate 6 (go_big_quiet_step (exact cQ2 _ _ (by omega) (by omega) _ _))
      iterate 3 (go_big_quiet_step (fail))
      iterate 6 (go_big_quiet_step (exact cQ3 _ _ (by omega) (by omega) _ _))
      repeat (go_big_quiet_step (fail))
      refine wpQuiet_nil ?_
      intro _ hw'
      obtain ⟨⟨dq, osq⟩, hw''⟩ := hw'
      subst hw''
      go_wp2
      go_ret
      exact ⟨rfl, hbW.trans ((below_regrown W dq osq).mono (by omega))⟩
end Go.Proofs.Qxb6617844a

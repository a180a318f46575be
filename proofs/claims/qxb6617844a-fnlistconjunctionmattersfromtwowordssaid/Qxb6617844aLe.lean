import Derived.Test.Qxb6617844aLd
import Derived.ProofKit
import Derived.OpenShut
import Derived.ShutString
import Derived.SliceStrings
import Derived.ChangeOld
import Derived.Below
namespace Go.Proofs.Qxb6617844a
open Go.ChangeShapes Go.WideShapes Go.ChangeAt Go.RowKit Go.Sort
open Go.ChangeMaps (open_string shut_string)

set_option maxHeartbeats 400000 in
theorem cut_big (ao : Option Addr) (c n : Nat) (k : Int) (xs : List ByteArray) (cj : ByteArray) (w : World) (h : Words w ao n xs) (hcj : cj.size ≤ 9223372036854775807) (hbig : 4096 < n ∨ 1048576 < cj.size) :
    Calls Try.prog 5 #[.slice ao n c, .int .i64 k, .string cj] w fun e w' => e = .returned (.bool true) ∧ Below w.heap.size w w' := by
  have H11 := h.bytes_cut k cj c hcj
  have hs := h.small
  clear h
  by_cases h1 : 4096 < n
  · clear hbig
    go_enter Try.func5, Try.ntmps5
    go_wp2_with fail
    refine H11.mono ?_
    rintro e w' ⟨⟨b, rfl⟩, hw⟩
    subst w'
    cases b
    all_goals
      go_wp2
      go_ret
      exact ⟨rfl, Below.refl _ _⟩
  · have h2 : 1048576 < cj.size := by omega
    clear hbig
    go_enter Try.func5, Try.ntmps5
    go_wp2_with fail
    refine H11.mono ?_
    rintro e w' ⟨⟨b, rfl⟩, hw⟩
    subst w'
    cases b
    all_goals
      go_wp2
      go_ret
      exact ⟨rfl, Below.refl _ _⟩

set_option maxHeartbeats 400000 in
theorem cut_nil (c n : Nat) (k : Int) (xs : List ByteArray) (cj : ByteArray) (w : World) (h : Words w none n xs) (hcj : cj.size ≤ 9223372036854775807) (h2 : cj.size ≤ 1048576) :
    Calls Try.prog 5 #[.slice none n c, .int .i64 k, .string cj] w fun e w' => e = .returned (.bool true) ∧ Below w.heap.size w w' := by
  have H11 := h.bytes_cut k cj c hcj
  have H12 := h.words_any cj.size c (by omega) (by omega)
  have hn : n < 1 := by have := h.nil; omega
  have hnil := fun w => run_neq_slice_nil_any (P := Try.prog) w 26 9 none n c 0 0 Try.underlying26
  clear h
  go_enter Try.func5, Try.ntmps5
  go_wp2_with fail
  refine H11.mono ?_
  rintro e w' ⟨⟨b, rfl⟩, hw⟩
  subst w'
  cases b
  · go_wp2
    go_ret
    exact ⟨rfl, Below.refl _ _⟩
  go_wp2_with fail
  refine H12.mono ?_
  rintro e w' ⟨⟨r, rfl, hr⟩, hw⟩
  subst w'
  by_cases h3 : r ≤ 1048576
  case neg =>
    go_wp2
    go_ret
    exact ⟨rfl, Below.refl _ _⟩
  clear hr H11 H12
  go_wp2_with (go_at_call 13; refine (list_none _ _ _ _ _ (by omega)).mono ?_; rintro e w' ⟨rfl, hb⟩)
  go_ret
  exact ⟨rfl, by assumption⟩

theorem cut_any (ao : Option Addr) (c n : Nat) (k : Int) (xs : List ByteArray) (cj : ByteArray) (w : World) (h : Words w ao n xs) (hcj : cj.size ≤ 9223372036854775807) :
    Calls Try.prog 5 #[.slice ao n c, .int .i64 k, .string cj] w fun e w' => e = .returned (.bool true) ∧ Below w.heap.size w w' := by
  by_cases hbig : 4096 < n ∨ 1048576 < cj.size
  · exact cut_big ao c n k xs cj w h hcj hbig
  · have h1 : n ≤ 4096 := by omega
    have h2 : cj.size ≤ 1048576 := by omega
    cases ao with
    | none => exact cut_nil c n k xs cj w h hcj h2
    | some a =>
      by_cases hn0 : n < 1
      · exact cut_zero a c n k xs cj w h hcj h1 h2 hn0
      by_cases hn1 : n ≤ 1
      · exact cut_one a c n k xs cj w h hcj h1 h2 (by omega) hn1
      by_cases hk : k < 0 ∨ (n : Int) - 2 < k
      · exact cut_out a c n k xs cj w h hcj h1 h2 (by omega) hk
      obtain ⟨m, rfl⟩ : ∃ m, n = m + 2 := ⟨n - 2, by omega⟩
      obtain ⟨j, rfl⟩ := Int.eq_ofNat_of_zero_le (show 0 ≤ k by omega)
      exact cut_main a c m j xs cj w h hcj h1 h2 (by omega)

theorem own : ownKnob Try.prog.godebug = none := by kernel_rfl
theorem laidOut : laidOutB Try.prog = true := by kernel_rfl
theorem Try.cells9 : Try.prog.cellsOf 9 = 1 := by kernel_rfl

/-- The words, as the row's reading gives them. -/
theorem words_of {H : Type} {enc : TypeId × Value → H} {W : World} {a0 : Option Addr} {len cap : Nat} {x : DataW H × List MemPlace} {fuel : Nat}
    (hf : DataW.trod enc Try.prog W 0 (fun _ => true) true fuel 26 (Value.slice a0 len cap).cells.toList = some x) : ∃ xs, Words W a0 len xs := by
  rcases open_strings Try.underlying26 Try.underlying9 Try.cells9 hf with ⟨hcs, _⟩ | ⟨a, l, c, ss, hcs, _, hl, hm, hz, _, hcell, hws⟩
  · simp [Value.cells] at hcs
    obtain ⟨rfl, rfl, rfl⟩ := hcs
    exact ⟨[], rfl, by omega, ⟨0, 0, by omega, by simp⟩, by simp⟩
  · simp [Value.cells] at hcs
    obtain ⟨rfl, rfl, rfl⟩ := hcs
    simp only [if_true] at hz
    unfold maxLen at hm hws
    obtain ⟨b, off, spot⟩ := a
    refine ⟨ss.take len, by simp; omega, by omega, ⟨b, off, fun h0 => ?_, fun j x hx => ?_⟩, fun x hx => hws x (List.mem_of_mem_take hx)⟩
    · have hspot : spot = none := by simpa [Addr.add] using World.cell?_spot (hcell 0 (by omega))
      rw [hspot]
    · have hj : j < (ss.take len).length := (List.getElem?_eq_some_iff.1 hx).1
      rw [List.length_take] at hj
      have hspot : spot = none := by simpa [Addr.add] using World.cell?_spot (hcell 0 (by omega))
      subst hspot
      rw [List.getElem?_take_of_lt (by omega)] at hx
      have := hcell j (by omega)
      rw [WideShapes.add_plain] at this
      rw [this, List.getD_eq_getElem?_getD, hx]
      rfl

set_option maxRecDepth 100000 in
theorem cut_lifted (os : Os) (started : os.Started) (H : Type) (enc : TypeId × Value → H) :
    ReturnsInHanded {} Try.checked os 5 .any (Rows.fnListCutAtAnyPlaceSpec.pre6 enc Try.prog Try.f5 Rows.fnListCutAtAnyPlaceRow.domain false) (Rows.fnListCutAtAnyPlaceSpec.post enc Try.prog Try.f5 false true false false) := by
  refine returnsInHanded_of_change (C := Try.checked) own started (by kernel_rfl) Try.func5
    (ChangeSpec.witness6 (enc := enc) (C := Try.checked) false ⟨#[], #[.slice none 0 0, .int .i64 0, .string ⟨#[]⟩], []⟩ 8 (by kernel_rfl) (by kernel_rfl) (by kernel_rfl) (by kernel_rfl)) ?_
  intro W base args ds gs before hval0 hW hcnd _
  have hval : ∀ (j : Nat) t v, Try.f5.params[j]? = some t → args[j]? = some v → Value.okWide Try.prog W .any base t v := hval0
  have hW' := hW
  obtain ⟨p, q, hA0, hV, rfl, hfz, hnd⟩ := hW
  have hA : DataW.TrodAll enc Try.prog W 0 (fun _ => true) true Try.f5.params.toList args.toList ds p := hA0
  rw [Try.params5] at hA hval
  obtain ⟨v0, vs0, d0, ds0, p0, q0, hargs, rfl, rfl, h0, r0⟩ := trodAll_cons hA
  obtain ⟨v1, vs1, d1, ds1, p1, q1, rfl, rfl, rfl, h1, r1⟩ := trodAll_cons r0
  obtain ⟨v2, vs2, d2, ds2, p2, q2, rfl, rfl, rfl, h2, r2⟩ := trodAll_cons r1
  obtain ⟨rfl, rfl, rfl⟩ := trodAll_nil r2
  obtain rfl : args = #[v0, v1, v2] := by cases args; simp_all
  obtain ⟨rfl, rfl⟩ := trodVars_none hV
  obtain ⟨a0, len0, cap0, rfl⟩ := okWide_slice Try.underlying26 (hval 0 26 v0 rfl rfl)
  have k0 := h0
  have lt0 : ∀ x ∈ p0, x.block < W.heap.size := by obtain ⟨m, hm⟩ := k0; exact DataW.trod_lt m _ _ _ hm
  obtain ⟨xs, w0⟩ : ∃ xs, Words W a0 len0 xs := by
    obtain ⟨fuel, hf⟩ := h0
    exact words_of hf
  obtain ⟨a1, rfl, rfl, rfl, w1⟩ := open_int Try.underlying3 (hval 1 3 v1 rfl rfl) h1
  obtain ⟨s2, rfl, rfl, rfl, w2⟩ := open_string Try.underlying9 (hval 2 9 v2 rfl rfl) h2
  clear hA0 hval0
  refine (cut_any a0 cap0 len0 a1 xs s2 W w0 (by unfold maxLen at w2; exact w2)).mono fun e W' ⟨he, bel⟩ => ?_
  subst he
  exact ⟨_, rfl, _, _, _, [], _, [], hW', trodAll_mk1 (shut_bool Try.underlying4 _), (trodAll_cons_mk (Below.trod laidOut (by kernel_rfl) (of_decide_eq_true (by kernel_rfl)) k0 bel lt0) (trodAll_cons_mk (shut_int Try.underlying3 w1) (trodAll_cons_mk (shut_string Try.underlying9 w2) trodAll_mk0))), rfl, bel.frame _, fun h => by cases h⟩

theorem cut_proved : Rows.FnListCutAtAnyPlaceSaid :=
  OpenClaim.holds_of_wide 5 Try.f5 rfl rfl rfl rfl rfl rfl rfl ⟨rfl, rfl, rfl, rfl, rfl⟩ rfl rfl rfl rfl rfl (by kernel_rfl) Try.func5 (by kernel_rfl)
    (of_decide_eq_true (by kernel_rfl)) (by unfold Func.isWrapper; first | (rw [if_pos (by decide +kernel)]; kernel_rfl) | (rw [if_neg (by decide +kernel)]; exact ⟨rfl, rfl⟩))
    (fun os started H enc _ => cut_lifted os started H enc)
end Go.Proofs.Qxb6617844a

import Derived.Test.Qxb6616771aSg
import Derived.ProofKit
import Derived.OpenShut
import Derived.ShutString
import Derived.SliceStrings
import Derived.ChangeOld
import Derived.Below
namespace Go.Proofs.Qxb6616771a
open Go.ChangeShapes Go.WideShapes Go.ChangeAt Go.RowKit Go.Sort
open Go.ChangeMaps (open_string shut_string)

set_option maxRecDepth 100000 in
set_option maxHeartbeats 1000000 in
theorem law_big (ao1 ao2 : Option Addr) (n m c1 c2 : Nat) (sh at_ : Int) (ot : ByteArray) (xs ys : List ByteArray) (w : World) (h1 : SW w ao1 n xs) (h2 : SW w ao2 m ys)
    (ho : ot.size ≤ 9223372036854775807) (hbig : 65536 < n ∨ 65536 < m ∨ 65536 < ot.size) :
    Calls Try.prog 3 #[.slice ao1 n c1, .slice ao2 m c2, .int .i64 sh, .int .i64 at_, .string ot] w fun e w' => e = .returned (.bool true) ∧ Below w.heap.size w w' := by
  have H4 := bytes_any ao1 ao2 n m c1 c2 sh at_ ot xs ys w h1 h2 ho
  have s1 := h1.small
  have s2 := h2.small
  clear h1 h2
  by_cases hn : 65536 < n
  · clear hbig
    go_enter Try.func3, Try.ntmps3
    go_wp2_with fail
    refine H4.mono ?_
    rintro e w' ⟨⟨b, rfl⟩, hw⟩
    subst w'
    clear H4
    cases b
    all_goals
      go_wp2
      go_ret
      exact ⟨rfl, Below.refl _ _⟩
  by_cases hm : 65536 < m
  · clear hbig
    go_enter Try.func3, Try.ntmps3
    go_wp2_with fail
    refine H4.mono ?_
    rintro e w' ⟨⟨b, rfl⟩, hw⟩
    subst w'
    clear H4
    cases b
    all_goals
      go_wp2
      go_ret
      exact ⟨rfl, Below.refl _ _⟩
  have ho2 : 65536 < ot.size := by omega
  clear hbig
  go_enter Try.func3, Try.ntmps3
  go_wp2_with fail
  refine H4.mono ?_
  rintro e w' ⟨⟨b, rfl⟩, hw⟩
  subst w'
  clear H4
  cases b
  all_goals
    go_wp2
    go_ret
    exact ⟨rfl, Below.refl _ _⟩

theorem law_any (ao1 ao2 : Option Addr) (n m c1 c2 : Nat) (sh at_ : Int) (ot : ByteArray) (xs ys : List ByteArray) (w : World) (h1 : SW w ao1 n xs) (h2 : SW w ao2 m ys) (ho : ot.size ≤ 9223372036854775807) :
    Calls Try.prog 3 #[.slice ao1 n c1, .slice ao2 m c2, .int .i64 sh, .int .i64 at_, .string ot] w fun e w' => e = .returned (.bool true) ∧ Below w.heap.size w w' := by
  by_cases hbig : 65536 < n ∨ 65536 < m ∨ 65536 < ot.size
  · exact law_big ao1 ao2 n m c1 c2 sh at_ ot xs ys w h1 h2 ho hbig
  · exact law_main ao1 ao2 n m c1 c2 sh at_ ot xs ys w h1 h2 (by omega) (by omega) (by omega)

theorem own : ownKnob Try.prog.godebug = none := by kernel_rfl
theorem laidOut : laidOutB Try.prog = true := by kernel_rfl
theorem Try.cells9 : Try.prog.cellsOf 9 = 1 := by kernel_rfl

/-- The strings, as the row's reading gives them. -/
theorem words_of {H : Type} {enc : TypeId × Value → H} {W : World} {a0 : Option Addr} {len cap : Nat} {x : DataW H × List MemPlace} {fuel : Nat}
    (hf : DataW.trod enc Try.prog W 0 (fun _ => true) true fuel 22 (Value.slice a0 len cap).cells.toList = some x) : ∃ xs, SW W a0 len xs := by
  rcases open_strings Try.underlying22 Try.underlying9 Try.cells9 hf with ⟨hcs, _⟩ | ⟨a, l, c, ss, hcs, _, hl, hm, hz, _, hcell, hws⟩
  · simp [Value.cells] at hcs
    obtain ⟨rfl, rfl, rfl⟩ := hcs
    exact ⟨[], rfl, by omega, ⟨0, 0, by omega, by simp⟩, by simp⟩
  · simp [Value.cells] at hcs
    obtain ⟨rfl, rfl, rfl⟩ := hcs
    simp only [if_true] at hz
    unfold maxLen at hm hws
    obtain ⟨b, off, spot⟩ := a
    refine ⟨ss.take len, by simp; omega, by omega, ⟨b, off, fun h0 => ?_, fun j x hx => ?_⟩, fun x hx => hws x (List.mem_of_mem_take hx)⟩
    · have hspot : spot = none := by simpa [Addr.add] using World.cell?_spot (hcell 0 (by omega))
      rw [hspot]
    · have hj : j < (ss.take len).length := (List.getElem?_eq_some_iff.1 hx).1
      rw [List.length_take] at hj
      have hspot : spot = none := by simpa [Addr.add] using World.cell?_spot (hcell 0 (by omega))
      subst hspot
      rw [List.getElem?_take_of_lt (by omega)] at hx
      have := hcell j (by omega)
      rw [WideShapes.add_plain] at this
      rw [this, List.getD_eq_getElem?_getD, hx]
      rfl

set_option maxRecDepth 100000 in
theorem lifted (os : Os) (started : os.Started) (H : Type) (enc : TypeId × Value → H) :
    ReturnsInHanded {} Try.checked os 3 .any (Rows.fnSameIgnoresPositionsOnChainsSpec.pre6 enc Try.prog Try.f3 Rows.fnSameIgnoresPositionsOnChainsRow.domain false) (Rows.fnSameIgnoresPositionsOnChainsSpec.post enc Try.prog Try.f3 false true false false) := by
  refine returnsInHanded_of_change (C := Try.checked) own started (by kernel_rfl) Try.func3
    (ChangeSpec.witness6 (enc := enc) (C := Try.checked) false ⟨#[], #[.slice none 0 0, .slice none 0 0, .int .i64 0, .int .i64 0, .string ⟨#[]⟩], []⟩ 8 (by kernel_rfl) (by kernel_rfl) (by kernel_rfl) (by kernel_rfl)) ?_
  intro W base args ds gs before hval0 hW hcnd _
  have hval : ∀ (j : Nat) t v, Try.f3.params[j]? = some t → args[j]? = some v → Value.okWide Try.prog W .any base t v := hval0
  have hW' := hW
  obtain ⟨p, q, hA0, hV, rfl, hfz, hnd⟩ := hW
  have hA : DataW.TrodAll enc Try.prog W 0 (fun _ => true) true Try.f3.params.toList args.toList ds p := hA0
  rw [Try.params3] at hA hval
  obtain ⟨v0, vs0, d0, ds0, p0, q0, hargs, rfl, rfl, h0, r0⟩ := trodAll_cons hA
  obtain ⟨v1, vs1, d1, ds1, p1, q1, rfl, rfl, rfl, h1, r1⟩ := trodAll_cons r0
  obtain ⟨v2, vs2, d2, ds2, p2, q2, rfl, rfl, rfl, h2, r2⟩ := trodAll_cons r1
  obtain ⟨v3, vs3, d3, ds3, p3, q3, rfl, rfl, rfl, h3, r3⟩ := trodAll_cons r2
  obtain ⟨v4, vs4, d4, ds4, p4, q4, rfl, rfl, rfl, h4, r4⟩ := trodAll_cons r3
  obtain ⟨rfl, rfl, rfl⟩ := trodAll_nil r4
  obtain rfl : args = #[v0, v1, v2, v3, v4] := by cases args; simp_all
  obtain ⟨rfl, rfl⟩ := trodVars_none hV
  obtain ⟨a0, len0, cap0, rfl⟩ := okWide_slice Try.underlying22 (hval 0 22 v0 rfl rfl)
  obtain ⟨a1, len1, cap1, rfl⟩ := okWide_slice Try.underlying22 (hval 1 22 v1 rfl rfl)
  have k0 := h0
  have k1 := h1
  have lt0 : ∀ x ∈ p0, x.block < W.heap.size := by obtain ⟨m, hm⟩ := k0; exact DataW.trod_lt m _ _ _ hm
  have lt1 : ∀ x ∈ p1, x.block < W.heap.size := by obtain ⟨m, hm⟩ := k1; exact DataW.trod_lt m _ _ _ hm
  obtain ⟨xs, w0⟩ : ∃ xs, SW W a0 len0 xs := by
    obtain ⟨fuel, hf⟩ := h0
    exact words_of hf
  obtain ⟨ys, w1⟩ : ∃ ys, SW W a1 len1 ys := by
    obtain ⟨fuel, hf⟩ := h1
    exact words_of hf
  obtain ⟨i2, rfl, rfl, rfl, w2⟩ := open_int Try.underlying3 (hval 2 3 v2 rfl rfl) h2
  obtain ⟨i3, rfl, rfl, rfl, w3⟩ := open_int Try.underlying3 (hval 3 3 v3 rfl rfl) h3
  obtain ⟨s4, rfl, rfl, rfl, w4⟩ := open_string Try.underlying9 (hval 4 9 v4 rfl rfl) h4
  clear hA0 hval0
  refine (law_any a0 a1 len0 len1 cap0 cap1 i2 i3 s4 xs ys W w0 w1 (by unfold maxLen at w4; exact w4)).mono fun e W' ⟨he, bel⟩ => ?_
  subst he
  exact ⟨_, rfl, _, _, _, [], _, [], hW', trodAll_mk1 (shut_bool Try.underlying4 _), (trodAll_cons_mk (Below.trod laidOut (by kernel_rfl) (of_decide_eq_true (by kernel_rfl)) k0 bel lt0) (trodAll_cons_mk (Below.trod laidOut (by kernel_rfl) (of_decide_eq_true (by kernel_rfl)) k1 bel lt1) (trodAll_cons_mk (shut_int Try.underlying3 w2) (trodAll_cons_mk (shut_int Try.underlying3 w3) (trodAll_cons_mk (shut_string Try.underlying9 w4) trodAll_mk0))))), rfl, bel.frame _, fun h => by cases h⟩

theorem proved : Rows.FnSameIgnoresPositionsOnChainsSaid :=
  OpenClaim.holds_of_wide 3 Try.f3 rfl rfl rfl rfl rfl rfl rfl ⟨rfl, rfl, rfl, rfl, rfl⟩ rfl rfl rfl rfl rfl (by kernel_rfl) Try.func3 (by kernel_rfl)
    (of_decide_eq_true (by kernel_rfl)) (by unfold Func.isWrapper; first | (rw [if_pos (by decide +kernel)]; kernel_rfl) | (rw [if_neg (by decide +kernel)]; exact ⟨rfl, rfl⟩))
    (fun os started H enc _ => lifted os started H enc)
end Go.Proofs.Qxb6616771a

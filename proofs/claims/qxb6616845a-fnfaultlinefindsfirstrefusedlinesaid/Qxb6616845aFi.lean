import Derived.Test.Qxb6616845aFh
namespace Go.Proofs.Qxb6616845a
open Go.ChangeShapes Go.WideShapes Go.ChangeAt Go.RowKit Go.Sort Go.Deep

set_option maxHeartbeats 400000 in
theorem find_big (ao : Option Addr) (n c : Nat) (nm : Int) (w : World) (hs : n ≤ 9223372036854775807) (hn : 65536 < n) :
    Calls Try.prog 3 #[.int .i64 nm, .slice ao n c] w fun e w' => e = .returned (.bool true) ∧ Below w.heap.size w w' := by
  have H7 := bytes5 nm ao n c w hs
  go_enter Try.func3, Try.ntmps3
  go_wp2_with fail
  refine H7.mono ?_
  rintro e w' ⟨⟨b, rfl⟩, hw⟩
  subst w'
  clear H7
  cases b
  all_goals
    go_wp2
    go_ret
    exact ⟨rfl, Below.refl _ _⟩

theorem find_any (ao : Option Addr) (n c : Nat) (nm : Int) (bs : List Bool) (w : World) (h : BW w ao n bs) :
    Calls Try.prog 3 #[.int .i64 nm, .slice ao n c] w fun e w' => e = .returned (.bool true) ∧ Below w.heap.size w w' := by
  by_cases hn : n ≤ 65536
  · by_cases h1 : nm < 1
    · exact find_low ao n c nm bs w h hn h1
    · by_cases h2 : (n : Int) < nm
      · exact find_high ao n c nm bs w h hn h2
      · obtain ⟨k, rfl⟩ := Int.eq_ofNat_of_zero_le (show 0 ≤ nm by omega)
        exact find_in ao n c k bs w h hn (by omega) (by omega)
  · exact find_big ao n c nm w h.small (by omega)

set_option maxRecDepth 100000 in
theorem find_lifted (os : Os) (started : os.Started) (H : Type) (enc : TypeId × Value → H) :
    ReturnsInHanded {} Try.checked os 3 .any (Rows.fnFaultLineFindsFirstRefusedLineSpec.pre6 enc Try.prog Try.f3 Rows.fnFaultLineFindsFirstRefusedLineRow.domain false) (Rows.fnFaultLineFindsFirstRefusedLineSpec.post enc Try.prog Try.f3 false true false false) := by
  refine returnsInHanded_of_change (C := Try.checked) own started (by kernel_rfl) Try.func3
    (ChangeSpec.witness6 (enc := enc) (C := Try.checked) false ⟨#[], #[.int .i64 0, .slice none 0 0], []⟩ 8 (by kernel_rfl) (by kernel_rfl) (by kernel_rfl) (by kernel_rfl)) ?_
  intro W base args ds gs before hval0 hW hcnd _
  have hval : ∀ (j : Nat) t v, Try.f3.params[j]? = some t → args[j]? = some v → Value.okWide Try.prog W .any base t v := hval0
  have hW' := hW
  obtain ⟨p, q, hA0, hV, rfl, hfz, hnd⟩ := hW
  have hA : DataW.TrodAll enc Try.prog W 0 (fun _ => true) true Try.f3.params.toList args.toList ds p := hA0
  rw [Try.params3] at hA hval
  obtain ⟨v0, vs0, d0, ds0, p0, q0, hargs, rfl, rfl, h0, r0⟩ := trodAll_cons hA
  obtain ⟨v1, vs1, d1, ds1, p1, q1, rfl, rfl, rfl, h1, r1⟩ := trodAll_cons r0
  obtain ⟨rfl, rfl, rfl⟩ := trodAll_nil r1
  obtain rfl : args = #[v0, v1] := by cases args; simp_all
  obtain ⟨rfl, rfl⟩ := trodVars_none hV
  obtain ⟨i0, rfl, rfl, rfl, w0⟩ := open_int Try.underlying3 (hval 0 3 v0 rfl rfl) h0
  obtain ⟨a1, len1, cap1, rfl⟩ := okWide_slice Try.underlying22 (hval 1 22 v1 rfl rfl)
  have k1 := h1
  have lt1 : ∀ x ∈ p1, x.block < W.heap.size := by obtain ⟨m, hm⟩ := k1; exact DataW.trod_lt m _ _ _ hm
  obtain ⟨bs, w1⟩ : ∃ bs, BW W a1 len1 bs := by
    obtain ⟨fuel, hf⟩ := h1
    exact bools_of hf
  clear hA0 hval0
  refine (find_any a1 len1 cap1 i0 bs W w1).mono fun e W' ⟨he, bel⟩ => ?_
  subst he
  exact ⟨_, rfl, _, _, _, [], _, [], hW', trodAll_mk1 (shut_bool Try.underlying4 _), (trodAll_cons_mk (shut_int Try.underlying3 w0) (trodAll_cons_mk (Below.trod laidOut (by kernel_rfl) (of_decide_eq_true (by kernel_rfl)) k1 bel lt1) trodAll_mk0)), rfl, bel.frame _, fun h => by cases h⟩

theorem find_proved : Rows.FnFaultLineFindsFirstRefusedLineSaid :=
  OpenClaim.holds_of_wide 3 Try.f3 rfl rfl rfl rfl rfl rfl rfl ⟨rfl, rfl, rfl, rfl, rfl⟩ rfl rfl rfl rfl rfl (by kernel_rfl) Try.func3 (by kernel_rfl)
    (of_decide_eq_true (by kernel_rfl)) (by unfold Func.isWrapper; first | (rw [if_pos (by decide +kernel)]; kernel_rfl) | (rw [if_neg (by decide +kernel)]; exact ⟨rfl, rfl⟩))
    (fun os started H enc _ => find_lifted os started H enc)
end Go.Proofs.Qxb6616845a

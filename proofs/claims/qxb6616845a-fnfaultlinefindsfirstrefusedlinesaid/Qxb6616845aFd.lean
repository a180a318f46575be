import Derived.Test.Qxb6616845aFc
namespace Go.Proofs.Qxb6616845a
open Go.RowKit Go.Sort

/-- The world is the boxed one. -/
def IsBoxed (w : World) (nm : Int) (rb : Nat) (wr : World) : Prop := wr = boxed w nm rb

/-- The second search, in whatever world behind the boxes. -/
theorem search2 {w : World} {last rb nm : Nat} {bs : List Bool} (hT : Tab (boxed w nm rb) rb last bs) (h0 : 1 ≤ nm) (len : Nat) (hl : nm + len ≤ last) (d : Nat) (os : Array Obj) :
    Calls Try.prog 10 #[.int .i64 len, .func (.func 12) #[] #[.pointer (some ⟨w.heap.size + 1, 0, none⟩), .pointer (some ⟨w.heap.size, 0, none⟩)]] (grow (redrawn (boxed w nm rb) d) os)
      fun e w'' => e = .returned (.int .i64 (srch (fun i => at1 bs (nm + i)) len 0 len)) ∧ ∃ p : Regrown, w'' = grow (redrawn (boxed w nm rb) p.d) p.os := by
  have hbd := below_regrown (boxed w nm rb) d os
  have hs := hT.small
  refine Calls.regrown_of (search_any 12 _ len (fun i => at1 bs (nm + i)) _ enter12 (by omega) ?_)
  intro W i hi hb
  have := second_any (i : Int) (nm : Int) (w.heap.size + 1) w.heap.size rb last bs W ((hT.below hbd).below hb) (cell_below hb (cell_below hbd (boxed_fn w nm rb))) (cell_below hb (cell_below hbd (boxed_nm w nm rb))) (by omega) (by omega) (by omega)
  rwa [show ((nm : Int) + (i : Int)).toNat = nm + i by omega] at this

set_option maxRecDepth 100000 in
set_option maxHeartbeats 1000000 in
theorem fault_in (last rb nm : Nat) (bs : List Bool) (w : World) (h : Tab w rb last bs) (h0 : 1 ≤ nm) (hnl : nm ≤ last) :
    Calls Try.prog 8 #[.int .i64 last, .int .i64 nm, .func (.func 9) #[] #[.pointer (some ⟨rb, 0, none⟩)]] w fun e w' => (∃ r : Nat, e = .returned (.int .i64 r) ∧ Good nm last bs r) ∧ Below w.heap.size w w' := by
  have hb0 := boxed_below w nm rb
  have hs := h.small
  have HTab : Hid (Tab (boxed w nm rb) rb last bs) := h.below hb0
  have q1 := boxed_nm w nm rb
  have q2 := boxed_fn w nm rb
  have HCalls : Hid (∀ hi : Nat, 1 ≤ hi → hi ≤ last → Calls Try.prog 9 #[.int .i64 hi, .pointer (some ⟨rb, 0, none⟩)] (boxed w nm rb) fun e w' => e = .returned (.bool (at1 bs hi)) ∧ w' = boxed w nm rb) :=
    fun hi h1 h2 => by
      have := refused_any (hi : Int) rb last bs (boxed w nm rb) HTab.out (by omega) (by omega)
      rwa [Int.toNat_natCast] at this
  clear h
  have hd1 : decide ((nm : Int) < 1) = false := decide_eq_false (by omega)
  have hd2 : decide ((last : Int) < (nm : Int)) = false := decide_eq_false (by omega)
  have hd3 : decide (last < nm) = false := decide_eq_false (by omega)
  go_enter Try.func8, Try.ntmps8
  go_wp2_with fail
  go_loopw [7] (fun off wr => ∃ k : Nat, off = .int .i64 k ∧ 1 ≤ k ∧ k ≤ 2 * (last - nm) + 1 ∧ IsBoxed w nm rb wr) (fun off _ => 2 * (last - nm) + 2 - (intOf off).toNat)
  case atStart => exact ⟨1, rfl, by omega, by omega, rfl⟩
  case round =>
    obtain ⟨k, rfl, hk1, hk2, hwr⟩ := hrel
    have hwr' : wr = boxed w nm rb := hwr
    subst hwr'
    clear hwr
    by_cases hhi : nm + k ≤ last
    · have hc := HCalls.out (nm + k) (by omega) (by omega)
      rw [show ((nm + k : Nat) : Int) = (nm : Int) + (k : Int) by omega] at hc
      go_wp2_with fail
      refine hc.mono ?_
      rintro e w' ⟨rfl, hw⟩
      subst w'
      cases hp : at1 bs (nm + k) with
      | true =>
        have HG : Hid (Good nm last bs (nm + srch (fun i => at1 bs (nm + i)) k 0 k)) := by
          have := good_in nm (nm + k) last bs h0 (by omega) (by omega) hp
          rwa [show nm + k - nm = k by omega] at this
        have cS := search2 HTab.out h0 k (by omega)
        have hsl : srch (fun i => at1 bs (nm + i)) k 0 k ≤ k := (srch_good (fun i => at1 bs (nm + i)) k k 0 k (by omega) (by omega) (by omega) (by omega) (by omega)).1
        generalize srch (fun i => at1 bs (nm + i)) k 0 k = s at *
        have k1 := cell_regrown q1
        rw [show (k : Int) = (nm : Int) + (k : Int) - (nm : Int) by omega] at cS
        go_wp2_with fail
        refine wp_region_quiet_below (by kernel_rfl) (by kernel_rfl) ?_
        repeat (first | go_big_quiet_step (exact cS _ _) | quiet_step (exact cS _ _))
        refine wpQuiet_nil ?_
        intro _ hw'
        obtain ⟨⟨dq, osq⟩, hw''⟩ := hw'
        subst hw''
        go_wp2
        go_ret
        exact ⟨⟨nm + s, by go_num, HG.out⟩, hb0.trans ((below_regrown _ dq osq).mono hb0.size)⟩
      | false =>
        by_cases hlt : nm + k < last
        · go_wp2
          go_roundw
          case rel => exact ⟨2 * k, by go_num, by omega, by omega, rfl⟩
          case measure => simp [intOf]; omega
        · have HP : Hid (at1 bs last = false) := by rw [show last = nm + k by omega]; exact hp
          go_wp2
          go_ret
          exact ⟨⟨last + 1, by go_num, by omega, by omega, fun h => absurd h (by omega), fun _ => HP.out⟩, hb0⟩
    · have hc := HCalls.out last (by omega) (by omega)
      go_wp2_with fail
      refine hc.mono ?_
      rintro e w' ⟨rfl, hw⟩
      subst w'
      cases hp : at1 bs last with
      | true =>
        obtain ⟨k, hkl⟩ : ∃ k : Nat, k = last - nm := ⟨_, rfl⟩
        have HG : Hid (Good nm last bs (nm + srch (fun i => at1 bs (nm + i)) k 0 k)) := by
          rw [hkl]; exact good_in nm last last bs h0 hnl (Nat.le_refl _) hp
        have cS := search2 HTab.out h0 k (by omega)
        have hsl : srch (fun i => at1 bs (nm + i)) k 0 k ≤ k := (srch_good (fun i => at1 bs (nm + i)) k k 0 k (by omega) (by omega) (by omega) (by omega) (by omega)).1
        generalize srch (fun i => at1 bs (nm + i)) k 0 k = s at *
        have k1 := cell_regrown q1
        rw [show (k : Int) = (last : Int) - (nm : Int) by omega] at cS
        have hkk : k ≤ last := by omega
        have HK : Hid (k = last - nm) := hkl
        clear hkl
        go_wp2_with fail
        refine wp_region_quiet_below (by kernel_rfl) (by kernel_rfl) ?_
        repeat (first | go_big_quiet_step (exact cS _ _) | quiet_step (exact cS _ _))
        refine wpQuiet_nil ?_
        intro _ hw'
        obtain ⟨⟨dq, osq⟩, hw''⟩ := hw'
        subst hw''
        go_wp2
        go_ret
        exact ⟨⟨nm + s, by go_num, HG.out⟩, hb0.trans ((below_regrown _ dq osq).mono hb0.size)⟩
      | false =>
        go_wp2
        go_ret
        exact ⟨⟨last + 1, by go_num, by omega, by omega, fun h => absurd h (by omega), fun _ => hp⟩, hb0⟩
end Go.Proofs.Qxb6616845a

import Derived.Test.Qxb6616845aFa
namespace Go.Proofs.Qxb6616845a
open Go.RowKit Go.Sort

/- The search, as a plain function. -/
/-- sort.Search from lo to hi, f steps at most. -/
def srch (p : Nat → Bool) : Nat → Nat → Nat → Nat
  | 0, lo, _ => lo
  | f + 1, lo, hi => if lo < hi then (if p ((lo + hi) / 2) then srch p f lo ((lo + hi) / 2) else srch p f ((lo + hi) / 2 + 1) hi) else lo

theorem srch_done (p : Nat → Bool) (f lo hi : Nat) (h : ¬ lo < hi) : srch p f lo hi = lo := by
  cases f with
  | zero => rfl
  | succ f => simp [srch, h]

theorem srch_good (p : Nat → Bool) (n f lo hi : Nat) (h1 : lo ≤ hi) (h2 : hi ≤ n) (hf : hi - lo ≤ f) (hl : 0 < lo → p (lo - 1) = false) (hh : hi < n → p hi = true) :
    srch p f lo hi ≤ n ∧ (srch p f lo hi < n → p (srch p f lo hi) = true) ∧ (0 < srch p f lo hi → p (srch p f lo hi - 1) = false) := by
  induction f generalizing lo hi with
  | zero =>
    have : lo = hi := by omega
    subst this
    exact ⟨h2, hh, hl⟩
  | succ f ih =>
    by_cases hlt : lo < hi
    · simp only [srch, if_pos hlt]
      by_cases hp : p ((lo + hi) / 2) = true
      · rw [if_pos hp]
        exact ih lo ((lo + hi) / 2) (by omega) (by omega) (by omega) hl (fun _ => hp)
      · rw [if_neg hp]
        exact ih ((lo + hi) / 2 + 1) hi (by omega) h2 (by omega) (fun _ => by simpa using hp) hh
    · have : lo = hi := by omega
      subst this
      rw [srch_done p _ _ _ hlt]
      exact ⟨h2, hh, hl⟩

set_option maxRecDepth 100000 in
set_option maxHeartbeats 800000 in
/-- sort.Search, whatever the function says at each place. -/
theorem search_any (g : Nat) (cb : Array Value) (n : Nat) (p : Nat → Bool) (w : World) (eg : ∀ args w, (callFunc g args).run Try.prog w = .ok (.enter g args) w) (hn : n ≤ 65536)
    (hf : ∀ (W : World) (i : Nat), i < n → Below w.heap.size w W → Calls Try.prog g (#[.int .i64 i] ++ cb) W fun e w' => e = .returned (.bool (p i)) ∧ w' = W) :
    Calls Try.prog 10 #[.int .i64 n, .func (.func g) #[] cb] w fun e w' => e = .returned (.int .i64 (srch p n 0 n)) ∧ Below w.heap.size w w' := by
  have HF : Hid (∀ (W : World) (i : Nat), i < n → Below w.heap.size w W → Calls Try.prog g (#[.int .i64 i] ++ cb) W fun e w' => e = .returned (.bool (p i)) ∧ w' = W) := hf
  obtain ⟨R, hR⟩ : ∃ R, R = srch p n 0 n := ⟨_, rfl⟩
  rw [← hR]
  have HR : Hid (R = srch p n 0 n) := hR
  clear hf hR
  go_enter Try.func10, Try.ntmps10
  go_wp2
  go_loop [5, 6] (fun s5 s6 => ∃ (lo hi f : Nat), s5 = .int .i64 lo ∧ s6 = .int .i64 hi ∧ lo ≤ hi ∧ hi ≤ n ∧ hi - lo ≤ f ∧ Hid (R = srch p f lo hi)) (fun s5 s6 => (intOf s6).toNat - (intOf s5).toNat)
  case atStart => exact ⟨0, n, n, rfl, rfl, by omega, by omega, by omega, HR⟩
  case round =>
    obtain ⟨lo, hi, f, rfl, rfl, h1, h2, h3, HI⟩ := hrel
    by_cases hlt : lo < hi
    · obtain ⟨f, rfl⟩ : ∃ f', f = f' + 1 := ⟨f - 1, by omega⟩
      have hc := HF.out w ((lo + hi) / 2) (by omega) (Below.refl _ _)
      rw [show (((lo + hi) / 2 : Nat) : Int) = ((lo : Int) + (hi : Int)) / 2 by omega] at hc
      have HI2 := HI.out
      simp only [srch, if_pos hlt] at HI2
      cases hp : p ((lo + hi) / 2) with
      | false =>
        rw [hp] at hc
        simp only [hp, Bool.false_eq_true, if_false] at HI2
        have HI3 : Hid (R = srch p f ((lo + hi) / 2 + 1) hi) := HI2
        clear HI2 hp HI
        go_wp2_with fail
        refine hc.mono ?_
        rintro e w' ⟨rfl, hw⟩
        subst w'
        go_wp2
        go_round
        case rel => exact ⟨(lo + hi) / 2 + 1, hi, f, by go_num, rfl, by omega, by omega, by omega, HI3⟩
        case measure => simp [intOf]; omega
      | true =>
        rw [hp] at hc
        simp only [hp, if_true] at HI2
        have HI3 : Hid (R = srch p f lo ((lo + hi) / 2)) := HI2
        clear HI2 hp HI
        go_wp2_with fail
        refine hc.mono ?_
        rintro e w' ⟨rfl, hw⟩
        subst w'
        go_wp2
        go_round
        case rel => exact ⟨lo, (lo + hi) / 2, f, rfl, by go_num, by omega, by omega, by omega, HI3⟩
        case measure => simp [intOf]; omega
    · have HI3 : Hid (R = lo) := HI.out.trans (srch_done p f lo hi hlt)
      clear HI
      go_wp2
      go_ret
      exact ⟨by rw [HI3.out]; rfl, Below.refl _ _⟩
end Go.Proofs.Qxb6616845a

import Derived.Test.Qxb6617024aFmtUb
namespace Go.Proofs.Qxb6617024aFmt
open Go.RowKit Go.Extern.Stop Go.Stop Go.Extern

set_option maxHeartbeats 800000 in
theorem law6_big (ao : Option Addr) (n c : Nat) (p s t : Int) (w : World) (hn : 1048576 < n) :
    Calls Tryf.prog 6 #[.slice ao n c, .int .i64 p, .int .i64 s, .int .i64 t] w fun e w' => e = .returned (.bool true) ∧ Below w.heap.size w w' := by
  have K21 := big6 ao n c p s t w hn
  go_enter Tryf.func6, Tryf.ntmps6
  go_wp2_with fail
  refine K21.mono ?_
  rintro e w' ⟨rfl, hw'⟩
  subst w'
  go_wp2
  go_ret
  exact ⟨rfl, Below.refl _ _⟩
set_option maxHeartbeats 800000 in
theorem law6_s (ao : Option Addr) (n c : Nat) (p s t : Int) (w : World) (hn : n ≤ 1048576) (hs : s < 0) :
    Calls Tryf.prog 6 #[.slice ao n c, .int .i64 p, .int .i64 s, .int .i64 t] w fun e w' => e = .returned (.bool true) ∧ Below w.heap.size w w' := by
  have K21 := small6 ao n c p s t w hn
  go_enter Tryf.func6, Tryf.ntmps6
  go_wp2_with fail
  refine K21.mono ?_
  rintro e w' ⟨rfl, hw'⟩
  subst w'
  go_wp2
  go_ret
  exact ⟨rfl, Below.refl _ _⟩
set_option maxHeartbeats 800000 in
theorem law6_t (ao : Option Addr) (n c : Nat) (p s t : Int) (w : World) (hn : n ≤ 1048576) (hs : 0 ≤ s) (ht : t < 0) :
    Calls Tryf.prog 6 #[.slice ao n c, .int .i64 p, .int .i64 s, .int .i64 t] w fun e w' => e = .returned (.bool true) ∧ Below w.heap.size w w' := by
  have K21 := small6 ao n c p s t w hn
  go_enter Tryf.func6, Tryf.ntmps6
  go_wp2_with fail
  refine K21.mono ?_
  rintro e w' ⟨rfl, hw'⟩
  subst w'
  go_wp2
  go_ret
  exact ⟨rfl, Below.refl _ _⟩
end Go.Proofs.Qxb6617024aFmt

import Derived.Test.Qxb6617844aWb
import Derived.Test.Qxb6617844aShelf
import Derived.Lib.QuietBelow
import Derived.BigQuiet
import Derived.Lib.Walk
namespace Go.Proofs.Qxb6617844a
open Go.RowKit Go.Sort

/-- What 'List' writes. -/
def listL (xs : List (List UInt8)) (c : List UInt8) : List UInt8 :=
  match xs with
  | [] => []
  | [x] => x
  | xs => Lib.join xs.dropLast [44, 32] ++ [32] ++ c ++ [32] ++ xs.getLastD []

def bytesOf (xs : List ByteArray) : List (List UInt8) := xs.map (·.data.toList)

theorem list_none (ao : Option Addr) (n c : Nat) (cj : ByteArray) (w : World) (hn : n < 1) :
    Calls Try.prog 13 #[.slice ao n c, .string cj] w fun e w' => e = .returned (.string ⟨#[]⟩) ∧ Below w.heap.size w w' := by
  go_enter Try.func13, Try.ntmps13
  go_wp2
  go_ret
  exact ⟨rfl, Below.refl _ _⟩

theorem list_one (bk o n c : Nat) (x cj : ByteArray) (w : World) (h1 : 1 ≤ n) (h2 : n ≤ 1) (h : w.cell? ⟨bk, o, none⟩ = some (.string x)) :
    Calls Try.prog 13 #[.slice (some ⟨bk, o, none⟩) n c, .string cj] w fun e w' => e = .returned (.string x) ∧ Below w.heap.size w w' := by
  go_enter Try.func13, Try.ntmps13
  go_wp2
  go_ret
  exact ⟨rfl, Below.refl _ _⟩

set_option maxHeartbeats 400000 in
theorem list_many (bk o c n : Nat) (xs : List ByteArray) (J y cj : ByteArray) (w : World) (hn : n = xs.length) (h1 : 1 ≤ n) (hcap : n + 1 ≤ c) (hc47 : c ≤ 140737488355328) (hbk : bk < w.heap.size)
    (hc : ∀ (j : Nat) x, xs[j]? = some x → w.cell? ⟨bk, o + j, none⟩ = some (.string x)) (hy : w.cell? ⟨bk, o + n, none⟩ = some (.string y))
    (hJe : J = ⟨(Lib.join (bytesOf xs) [44, 32]).toArray⟩) (hJ : J.size + cj.size + y.size ≤ 140737488355000) :
    Calls Try.prog 13 #[.slice (some ⟨bk, o, none⟩) (n + 1) c, .string cj] w fun e w' =>
      e = .returned (.string (J ++ ⟨#[32]⟩ ++ cj ++ ⟨#[32]⟩ ++ y)) ∧ Below w.heap.size w w' := by
  have ky := cell_regrown hy
  have cQ : ∀ d os, Calls Try.prog 16 #[.slice (some ⟨bk, o, none⟩) n c, .string ⟨#[44, 32]⟩] (grow (redrawn w d) os) fun e w'' => e = .returned (.string J) ∧ ∃ p : Regrown, w'' = grow (redrawn w p.d) p.os := by
    intro d os
    subst hn
    subst hJe
    refine Calls.regrown_of (Try.strings_Join bk o c xs ⟨#[44, 32]⟩ _ ?_ ?_ ?_ ?_ ?_)
    · intro j x hx
      exact cell_regrown (hc j x hx) d os
    · exact Nat.lt_of_lt_of_le hbk (below_regrown w d os).size
    · omega
    · omega
    · have : (⟨(Lib.join (bytesOf xs) [44, 32]).toArray⟩ : ByteArray).size = (Lib.join (bytesOf xs) [44, 32]).length := by rw [Lib.size_eq]
      show (Lib.join (bytesOf xs) [44, 32]).length ≤ _
      omega
  have n1 : ¬ 9223372036854775807 < J.size + 1 := by omega
  have n2 : ¬ 9223372036854775807 < J.size + 1 + cj.size := by omega
  have n3 : ¬ 9223372036854775807 < J.size + 1 + cj.size + 1 := by omega
  have n4 : ¬ 9223372036854775807 < J.size + 1 + cj.size + 1 + y.size := by omega
  clear hc hn hJ hJe
  go_enter Try.func13, Try.ntmps13
  go_wp2_with fail
  refine wp_region_quiet_below (by kernel_rfl) (by kernel_rfl) ?_
  repeat (first | go_big_quiet_step (exact cQ _ _) | quiet_step (exact cQ _ _))
  refine wpQuiet_nil ?_
  intro _ hw'
  obtain ⟨⟨dq, osq⟩, hw''⟩ := hw'
  subst hw''
  go_wp2
  go_ret
  exact ⟨rfl, below_regrown w dq osq⟩
end Go.Proofs.Qxb6617844a

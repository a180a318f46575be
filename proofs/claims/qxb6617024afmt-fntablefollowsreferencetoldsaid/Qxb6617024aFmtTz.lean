import Derived.Test.Qxb6617024aFmtTy
namespace Go.Proofs.Qxb6617024aFmt
open Go.RowKit Go.Extern.Stop Go.Stop Go.Extern

set_option maxHeartbeats 800000 in
theorem clone_zero (a : Addr) (n c : Nat) (w : World) (hn : n ≤ 0) :
    Calls Tryf.prog 8 #[.slice (some a) n c] w fun e w' => e = .returned (.slice (some ⟨w.heap.size, 0, none⟩) n n) ∧ Fill w w' w.heap.size n n [] := by
  have hmk := make_row n (by omega)
  have heq := eq_some
  have HN : Hid (n ≤ 0) := hn
  clear hn
  go_enter Tryf.func8, Tryf.ntmps8
  go_wp2
  go_loopw [4] (fun i wr => ∃ k : Nat, k = n ∧ i = .int .i64 k ∧ Hid (Fill w wr w.heap.size n n [])) (fun _ _ => 0)
  case atStart =>
    have := HN.out
    obtain rfl : n = 0 := by omega
    exact ⟨0, rfl, rfl, Fill.start w 0 []⟩
  case round =>
    obtain ⟨k, rfl, rfl, HI⟩ := hrel
    clear hmk
    go_wp2
    go_ret
    exact ⟨rfl, HI.out⟩
end Go.Proofs.Qxb6617024aFmt

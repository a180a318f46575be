import Derived.Test.Qxb6617024aFmtTl
namespace Go.Proofs.Qxb6617024aFmt
open Go.RowKit Go.Extern.Stop Go.Stop Go.Extern

set_option maxHeartbeats 800000 in
theorem field_none (s k : Int) (w : World) :
    Calls Tryf.prog 25 #[noTable, .int .i64 s, .int .i64 k] w fun e w' => e = .returned (.int .i64 (-1)) ∧ Below w.heap.size w w' := by
  unfold noTable
  go_enter Tryf.func25, Tryf.ntmps25
  go_wp2
  go_ret
  exact ⟨rfl, (Below.refl _ _).alloc (Nat.le_refl _) _⟩

set_option maxHeartbeats 800000 in
theorem field_bad (bb : Nat) (p vt sl s k : Int) (w : World) (he : ErrIs w bb true) :
    Calls Tryf.prog 25 #[isTable bb p vt sl, .int .i64 s, .int .i64 k] w fun e w' => e = .returned (.int .i64 (-1)) ∧ Below w.heap.size w w' := by
  unfold isTable
  obtain ⟨a, ha⟩ := he
  have hq := fun ob => cell_below ((Below.refl w.heap.size w).alloc (Nat.le_refl _) ob) ha
  go_enter Tryf.func25, Tryf.ntmps25
  go_wp2
  go_ret
  exact ⟨rfl, (Below.refl _ _).alloc (Nat.le_refl _) _⟩

set_option maxHeartbeats 800000 in
theorem field_past (bb : Nat) (p vt sl s k : Int) (w : World) (he : ErrIs w bb false) (hs : sl ≤ s) :
    Calls Tryf.prog 25 #[isTable bb p vt sl, .int .i64 s, .int .i64 k] w fun e w' => e = .returned (.int .i64 (-1)) ∧ Below w.heap.size w w' := by
  unfold isTable
  have he' : w.cell? ⟨bb, 1, none⟩ = some .nilIface := he
  have hq := fun ob => cell_below ((Below.refl w.heap.size w).alloc (Nat.le_refl _) ob) he'
  clear he
  go_enter Tryf.func25, Tryf.ntmps25
  go_wp2
  go_ret
  exact ⟨rfl, (Below.refl _ _).alloc (Nat.le_refl _) _⟩
end Go.Proofs.Qxb6617024aFmt

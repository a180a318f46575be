import Derived.Test.Qxb6616771aRows
import Derived.WalkKit
import Derived.WalkSpells
import Derived.WalkLawsBesides
import Derived.Lib.QuietBelow
import Derived.BigQuiet
namespace Go.Proofs.Qxb6616771a
open Go.RowKit Go.Sort

theorem as30_42 (v : Value) (w : World) : (Instr.typeAssert (.iface 30 v) 34 42 true).run Try.prog w = .ok (.tuple #[.pointer none, .bool false]) w := by kernel_rfl
theorem as30_47 (v : Value) (w : World) : (Instr.typeAssert (.iface 30 v) 34 47 true).run Try.prog w = .ok (.tuple #[.pointer none, .bool false]) w := by kernel_rfl
theorem as30_30 (v : Value) (w : World) : (Instr.typeAssert (.iface 30 v) 34 30 true).run Try.prog w = .ok (.tuple #[v, .bool true]) w := by kernel_rfl
theorem as26_42 (v : Value) (w : World) : (Instr.typeAssert (.iface 26 v) 34 42 true).run Try.prog w = .ok (.tuple #[.pointer none, .bool false]) w := by kernel_rfl
theorem as26_47 (v : Value) (w : World) : (Instr.typeAssert (.iface 26 v) 34 47 true).run Try.prog w = .ok (.tuple #[.pointer none, .bool false]) w := by kernel_rfl
theorem as26_30 (v : Value) (w : World) : (Instr.typeAssert (.iface 26 v) 34 30 true).run Try.prog w = .ok (.tuple #[.pointer none, .bool false]) w := by kernel_rfl
theorem as26_52 (v : Value) (w : World) : (Instr.typeAssert (.iface 26 v) 34 52 true).run Try.prog w = .ok (.tuple #[.pointer none, .bool false]) w := by kernel_rfl
theorem as26_56 (v : Value) (w : World) : (Instr.typeAssert (.iface 26 v) 34 56 true).run Try.prog w = .ok (.tuple #[.pointer none, .bool false]) w := by kernel_rfl
theorem as26_26 (v : Value) (w : World) : (Instr.typeAssert (.iface 26 v) 34 26 true).run Try.prog w = .ok (.tuple #[v, .bool true]) w := by kernel_rfl

set_option maxHeartbeats 400000 in
/-- Same's closure: two operators alike in their text. -/
theorem op_same (x y : ByteArray) (p q : Int) (w : World) :
    Calls Try.prog 10 #[.agg #[.string x, .int .i64 p], .agg #[.string y, .int .i64 q]] w fun e w' => e = .returned (.bool (x.toList == y.toList)) ∧ Below w.heap.size w w' := by
  go_enter Try.func10, Try.ntmps10
  go_wp2
  go_ret
  exact ⟨rfl, ((Below.refl _ _).alloc (Nat.le_refl _) _).alloc (by simp) _⟩

set_option maxRecDepth 100000 in
set_option maxHeartbeats 800000 in
/-- Same at two column references: alike in their names. -/
theorem col_same (a b : Nat) (x y : ByteArray) (w : World) (ha : w.cell? ⟨a, 0, none⟩ = some (.string x)) (hb : w.cell? ⟨b, 0, none⟩ = some (.string y)) :
    Calls Try.prog 8 #[.iface 30 (.pointer (some ⟨a, 0, none⟩)), .iface 30 (.pointer (some ⟨b, 0, none⟩))] w fun e w' => e = .returned (.bool (x.toList == y.toList)) ∧ Below w.heap.size w w' := by
  have s1 := as30_42
  have s2 := as30_47
  have s3 := as30_30
  have ka := cell_regrown ha
  have kb := cell_regrown hb
  go_enter Try.func8, Try.ntmps8
  go_wp2
  refine wp_region_quiet_below (by kernel_rfl) (by kernel_rfl) ?_
  repeat (go_big_quiet_step (fail))
  refine wpQuiet_nil ?_
  intro _ hw'
  obtain ⟨⟨dq, osq⟩, hw''⟩ := hw'
  subst hw''
  go_wp2
  go_ret
  exact ⟨rfl, below_regrown w dq osq⟩
end Go.Proofs.Qxb6616771a

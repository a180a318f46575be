import Derived.Test.Qxb6617024aFmtRows
import Derived.Stop.CallBack
import Derived.Stop.IfaceNil
import Derived.WalkKit
import Derived.WalkSpells
import Derived.WalkLawsBesides
namespace Go.Proofs.Qxb6617024aFmt
open Go.RowKit Go.Extern.Stop Go.Stop Go.Extern

theorem call34 (args : Array Value) (w : World) : (callFunc 34 args).run Tryf.prog w = (FmtCalls.errorf #[9, 56] #[40] args).run Tryf.prog w :=
  run_callFunc_next Tryf.func34 (by kernel_rfl) (by kernel_rfl) (by kernel_rfl) args w
theorem guard_ok (name : String) (w : World) : (FmtStop.guard name).run Tryf.prog w = .ok () w := by kernel_rfl
theorem nextTurns : Extern.next FmtCalls.turnsRow = some (FmtCalls.begun #[] #[]) := by kernel_rfl

/-- An operand that the stop reads and calls no method of. -/
def Plain (verb : UInt8) (v : Value) : Prop :=
  (∀ w, (FmtCalls.act "fmt.errorf" true verb false v).run Tryf.prog w = .ok (.closed true) w) ∧ ∃ ty val, ∀ w, (FmtStop.operand "fmt.errorf" true verb false v).run Tryf.prog w = .ok (ty, val) w

theorem plain_str (x : ByteArray) : Plain 115 (.iface 9 (.string x)) :=
  ⟨fun w => by kernel_rfl, [12, 6, 0, 0, 0, 0, 0, 0, 0, 115, 116, 114, 105, 110, 103], FmtStop.pack x.data.toList, fun w => by kernel_rfl⟩
theorem plain_int (x : Int) : Plain 100 (.iface 3 (.int .i64 x)) :=
  ⟨fun w => by kernel_rfl, [5, 3, 0, 0, 0, 0, 0, 0, 0, 105, 110, 116], Go.Extern.Stop.digits 8 (x % 2 ^ 64).toNat, fun w => by kernel_rfl⟩
theorem plain_i64 (x : Int) : Plain 100 (.iface 2 (.int .i64 x)) :=
  ⟨fun w => by kernel_rfl, [5, 5, 0, 0, 0, 0, 0, 0, 0, 105, 110, 116, 54, 52], Go.Extern.Stop.digits 8 (x % 2 ^ 64).toNat, fun w => by kernel_rfl⟩
theorem plain_u32 (x : Int) : Plain 100 (.iface 44 (.int .u32 x)) :=
  ⟨fun w => by kernel_rfl, [8, 6, 0, 0, 0, 0, 0, 0, 0, 117, 105, 110, 116, 51, 50], Go.Extern.Stop.digits 8 (x % 2 ^ 64).toNat, fun w => by kernel_rfl⟩

theorem ptr63 (w : World) : (FmtStop.ptrTo "errors.errorString").run Tryf.prog w = .ok 63 w := by kernel_rfl
theorem elem63 (w : World) : (elemOf 63).run Tryf.prog w = .ok 65 w := by kernel_rfl

/-- The stop, its operands all plain, no '%w' among the verbs: a new error, one draw, one new block. -/
theorem turns_ok (b : Nat) (n c : Nat) (f : ByteArray) (w : World) : ∀ (ps : List (Nat × UInt8 × Bool)) (acc : List (List UInt8)),
    (∀ i verb sharp, (i, verb, sharp) ∈ ps → sharp = false ∧ i < n ∧ ∃ v, w.cell? ⟨b, i, none⟩ = some v ∧ Plain verb v) →
    ∃ W, (FmtCalls.turns 3 1 (.slice (some ⟨b, 0, none⟩) n c) f acc ps).run Tryf.prog w = .ok (.value (.iface 63 (.pointer (some ⟨w.heap.size, 0, none⟩)))) W ∧ Below w.heap.size w W ∧ w.heap.size < W.heap.size := by
  intro ps
  induction ps with
  | nil =>
    intro acc _
    have nv : ∀ (x : Nat) (w : World), (newVar 65 (.agg #[FmtStop.str x])).run Tryf.prog w = .ok ⟨w.heap.size, 0, none⟩ (w.alloc (.cells #[FmtStop.str x] 65)) := fun x w => by
      simp [newVar, newRow, Value.cells]
    simp only [FmtCalls.turns, FmtCalls.finish]
    simp [ptr63, elem63, nv]
    split
    · exact ⟨_, rfl, (Below.refl _ _).alloc (Nat.le_refl _) _, by simp⟩
    · exact ⟨_, rfl, ((Below.refl _ _).drew).alloc (Nat.le_refl _) _, by simp⟩
  | cons p ps ih =>
    intro acc h
    obtain ⟨i, verb, sharp⟩ := p
    obtain ⟨rfl, hi, v, hv, ha, ty, val, ho⟩ := h i verb sharp (by simp)
    obtain ⟨W, hW⟩ := ih (acc ++ [ty, val]) (fun i v s hm => h i v s (by simp [hm]))
    refine ⟨W, ?_, hW.2⟩
    have hv' : w.cell? ((⟨b, 0, none⟩ : Addr).add i) = some v := by rw [WideShapes.add_plain, Nat.zero_add]; exact hv
    simp [FmtCalls.turns, FmtDoors.operand, hi, FmtCalls.frontName, hv', ha, ho, hW.1]
end Go.Proofs.Qxb6617024aFmt

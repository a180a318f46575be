import Derived.Test.Qxb6617024aFmtTw
namespace Go.Proofs.Qxb6617024aFmt
open Go.RowKit Go.Extern.Stop Go.Stop Go.Extern

/-- What a new buffer's block holds. -/
def bufObj (ao : Option Addr) (n c : Nat) : Obj := .cells #[.slice ao n c, .nilIface, .map none, .int .i64 0] 43

set_option maxHeartbeats 400000 in
theorem newBuffer (ao : Option Addr) (n c : Nat) (w : World) : Calls Tryf.prog 9 #[.slice ao n c] w fun e w' => e = .returned (.pointer (some ⟨w.heap.size, 0, none⟩)) ∧ w' = w.alloc (bufObj ao n c) := by
  unfold bufObj
  go_enter Tryf.func9, Tryf.ntmps9
  go_wp2
  go_ret
  exact ⟨rfl, rfl⟩

set_option maxHeartbeats 400000 in
theorem present_no (w : World) : Calls Tryf.prog 11 #[noTable] w fun e w' => e = .returned (.bool false) ∧ Below w.heap.size w w' := by
  unfold noTable
  go_enter Tryf.func11, Tryf.ntmps11
  go_wp2
  go_ret
  exact ⟨rfl, (Below.refl _ _).alloc (Nat.le_refl _) _⟩
set_option maxHeartbeats 400000 in
theorem present_yes (bb : Nat) (p v s : Int) (w : World) : Calls Tryf.prog 11 #[isTable bb p v s] w fun e w' => e = .returned (.bool true) ∧ Below w.heap.size w w' := by
  unfold isTable
  go_enter Tryf.func11, Tryf.ntmps11
  go_wp2
  go_ret
  exact ⟨rfl, (Below.refl _ _).alloc (Nat.le_refl _) _⟩
set_option maxHeartbeats 400000 in
theorem getPos (t0 t2 t3 : Value) (p : Int) (w : World) : Calls Tryf.prog 17 #[.agg #[t0, .int .i64 p, t2, t3]] w fun e w' => e = .returned (.int .i64 p) ∧ Below w.heap.size w w' := by
  go_enter Tryf.func17, Tryf.ntmps17
  go_wp2
  go_ret
  exact ⟨rfl, (Below.refl _ _).alloc (Nat.le_refl _) _⟩
set_option maxHeartbeats 400000 in
theorem getVt (t0 t1 t3 : Value) (p : Int) (w : World) : Calls Tryf.prog 18 #[.agg #[t0, t1, .int .i64 p, t3]] w fun e w' => e = .returned (.int .i64 p) ∧ Below w.heap.size w w' := by
  go_enter Tryf.func18, Tryf.ntmps18
  go_wp2
  go_ret
  exact ⟨rfl, (Below.refl _ _).alloc (Nat.le_refl _) _⟩
set_option maxHeartbeats 400000 in
theorem getSlots (t0 t1 t2 : Value) (p : Int) (w : World) : Calls Tryf.prog 19 #[.agg #[t0, t1, t2, .int .i64 p]] w fun e w' => e = .returned (.int .i64 p) ∧ Below w.heap.size w w' := by
  go_enter Tryf.func19, Tryf.ntmps19
  go_wp2
  go_ret
  exact ⟨rfl, (Below.refl _ _).alloc (Nat.le_refl _) _⟩
set_option maxHeartbeats 400000 in
theorem getBuf (a : Option Addr) (t1 t2 t3 : Value) (w : World) : Calls Tryf.prog 20 #[.agg #[.pointer a, t1, t2, t3]] w fun e w' => e = .returned (.pointer a) ∧ Below w.heap.size w w' := by
  go_enter Tryf.func20, Tryf.ntmps20
  go_wp2
  go_ret
  exact ⟨rfl, (Below.refl _ _).alloc (Nat.le_refl _) _⟩

set_option maxHeartbeats 400000 in
theorem small6 (ao : Option Addr) (n c : Nat) (p s t : Int) (w : World) (hn : n ≤ 1048576) : Calls Tryf.prog 21 #[.slice ao n c, .int .i64 p, .int .i64 s, .int .i64 t] w fun e w' => e = .returned (.bool true) ∧ w' = w := by
  go_enter Tryf.func21, Tryf.ntmps21
  go_wp2
  go_ret
  exact ⟨rfl, rfl⟩
set_option maxHeartbeats 400000 in
theorem big6 (ao : Option Addr) (n c : Nat) (p s t : Int) (w : World) (hn : 1048576 < n) : Calls Tryf.prog 21 #[.slice ao n c, .int .i64 p, .int .i64 s, .int .i64 t] w fun e w' => e = .returned (.bool false) ∧ w' = w := by
  go_enter Tryf.func21, Tryf.ntmps21
  go_wp2
  go_ret
  exact ⟨rfl, rfl⟩
set_option maxHeartbeats 400000 in
theorem small5 (ao : Option Addr) (n c : Nat) (p s : Int) (w : World) (hn : n ≤ 1048576) : Calls Tryf.prog 14 #[.slice ao n c, .int .i64 p, .int .i64 s] w fun e w' => e = .returned (.bool true) ∧ w' = w := by
  go_enter Tryf.func14, Tryf.ntmps14
  go_wp2
  go_ret
  exact ⟨rfl, rfl⟩
set_option maxHeartbeats 400000 in
theorem big5 (ao : Option Addr) (n c : Nat) (p s : Int) (w : World) (hn : 1048576 < n) : Calls Tryf.prog 14 #[.slice ao n c, .int .i64 p, .int .i64 s] w fun e w' => e = .returned (.bool false) ∧ w' = w := by
  go_enter Tryf.func14, Tryf.ntmps14
  go_wp2
  go_ret
  exact ⟨rfl, rfl⟩

set_option maxHeartbeats 800000 in
/-- The thin word for 'table'. -/
theorem open_table (bb : Nat) (ro : Option Addr) (p i1 i2 i3 : Int) (x : Bool) (w : World) (hlt : bb < w.heap.size)
    (C : ∀ w1, Below w.heap.size w w1 → Calls Tryf.prog 22 #[.pointer (some ⟨bb, 0, none⟩), .int .i64 p] w1 fun e w' => e = .returned (.agg #[.pointer ro, .int .i64 i1, .int .i64 i2, .int .i64 i3]) ∧ Kept bb w1 w' ∧ ErrIs w' bb x) :
    Calls Tryf.prog 10 #[.pointer (some ⟨bb, 0, none⟩), .int .i64 p] w fun e w' => e = .returned (.agg #[.pointer ro, .int .i64 i1, .int .i64 i2, .int .i64 i3]) ∧ Kept bb w w' ∧ ErrIs w' bb x := by
  have hb0 : ∀ ob, Below w.heap.size w (w.alloc ob) := fun ob => (Below.refl w.heap.size w).alloc (Nat.le_refl _) ob
  go_enter Tryf.func10, Tryf.ntmps10
  go_wp2_with fail
  refine (C _ (hb0 _)).mono ?_
  rintro e w1 ⟨rfl, hk1, he1⟩
  obtain ⟨q0, q1, q2, q3, q4, q5, q6, q7⟩ := (Four.new w).kept hk1 (by omega)
  have HK := hide ((Kept.of_below (hb0 _)).trans hk1)
  have HE := hide he1
  clear hk1 he1 C hb0
  go_wp2
  refine bodyPost_ret (v := .agg #[.pointer ro, .int .i64 i1, .int .i64 i2, .int .i64 i3]) (by simp [results, Tryf.results10, go_sem, q0, q1, q2, q3]) rfl ⟨rfl, (((HK.out.own (Nat.le_refl _) _).own (Nat.le_refl _) _).own (Nat.le_refl _) _).own (Nat.le_refl _) _, (((HE.out.own (by omega) _).own (by omega) _).own (by omega) _).own (by omega) _⟩
end Go.Proofs.Qxb6617024aFmt

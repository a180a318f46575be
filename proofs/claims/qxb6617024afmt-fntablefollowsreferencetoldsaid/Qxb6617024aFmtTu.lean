import Derived.Test.Qxb6617024aFmtTr
import Derived.Test.Qxb6617024aFmtTo
import Derived.Test.Qxb6617024aFmtTt
namespace Go.Proofs.Qxb6617024aFmt
open Go.RowKit Go.Extern.Stop Go.Stop Go.Extern

theorem Four.new2 (w : World) (ob : Obj) : Four ((w.alloc ob).alloc (.cells #[.pointer none, .int .i64 0, .int .i64 0, .int .i64 0] 28)) (w.heap.size + 1) (.pointer none) (.int .i64 0) (.int .i64 0) (.int .i64 0) := by
  have := Four.new (w.alloc ob)
  rwa [show (w.alloc ob).heap.size = w.heap.size + 1 from by simp] at this

set_option maxHeartbeats 800000 in
/-- Where the field is not to be had, the zero Table comes back. -/
theorem get_none (bb : Nat) (t0 t1 t2 t3 : Value) (s : Int) (x : Bool) (w : World) (hlt : bb < w.heap.size)
    (C : ∀ w1, Below w.heap.size w w1 → Calls Tryf.prog 25 #[.agg #[t0, t1, t2, t3], .int .i64 s, .int .i64 4] w1 fun e w' => e = .returned (.int .i64 (-1)) ∧ Kept bb w1 w' ∧ ErrIs w' bb x) :
    Calls Tryf.prog 15 #[.agg #[t0, t1, t2, t3], .int .i64 s] w fun e w' => e = .returned noTable ∧ Kept bb w w' ∧ ErrIs w' bb x := by
  have hb0 : ∀ ob ob', Below w.heap.size w ((w.alloc ob).alloc ob') := fun ob ob' => ((Below.refl w.heap.size w).alloc (Nat.le_refl _) ob).alloc (by simp) ob'
  go_enter Tryf.func15, Tryf.ntmps15
  go_wp2_with fail
  refine (C _ (hb0 _ _)).mono ?_
  rintro e w1 ⟨rfl, hk1, he1⟩
  obtain ⟨q0, q1, q2, q3, q4, q5, q6, q7⟩ := (Four.new2 w _).kept hk1 (by omega)
  have HK := hide ((Kept.of_below (hb0 _ _)).trans hk1)
  have HE := hide he1
  clear hk1 he1 C hb0
  go_wp2
  refine bodyPost_ret (v := noTable) (by simp [results, Tryf.results15, go_sem, noTable, q0, q1, q2, q3]) rfl ⟨rfl, (((HK.out.own (by omega) _).own (by omega) _).own (by omega) _).own (by omega) _, (((HE.out.own (by omega) _).own (by omega) _).own (by omega) _).own (by omega) _⟩
end Go.Proofs.Qxb6617024aFmt

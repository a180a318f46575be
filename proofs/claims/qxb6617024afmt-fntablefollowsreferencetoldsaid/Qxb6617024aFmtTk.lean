import Derived.Test.Qxb6617024aFmtTj
namespace Go.Proofs.Qxb6617024aFmt
open Go.RowKit Go.Extern.Stop Go.Stop Go.Extern

/-- The zero Table. -/
def noTable : Value := .agg #[.pointer none, .int .i64 0, .int .i64 0, .int .i64 0]
/-- A Table of the buffer in block bb. -/
def isTable (bb : Nat) (p vt s : Int) : Value := .agg #[.pointer (some ⟨bb, 0, none⟩), .int .i64 p, .int .i64 vt, .int .i64 s]

set_option maxHeartbeats 800000 in
theorem table_neg (bb : Nat) (p : Int) (w : World) (h0 : p < 0) :
    Calls Tryf.prog 22 #[.pointer (some ⟨bb, 0, none⟩), .int .i64 p] w fun e w' => e = .returned noTable ∧ Below w.heap.size w w' := by
  go_enter Tryf.func22, Tryf.ntmps22
  go_wp2
  refine bodyPost_ret (v := noTable) (by simp [results, Tryf.results22, go_sem, noTable]) rfl ⟨rfl, (Below.refl _ _).alloc (Nat.le_refl _) _⟩

/-- A block of four cells that lies open. -/
structure Four (w : World) (r : Nat) (a b c d : Value) : Prop where
  c0 : w.cell? ⟨r, 0, none⟩ = some a
  c1 : w.cell? ⟨r, 1, none⟩ = some b
  c2 : w.cell? ⟨r, 2, none⟩ = some c
  c3 : w.cell? ⟨r, 3, none⟩ = some d
  f0 : w.frozen? ⟨r, 0, none⟩ = false
  f1 : w.frozen? ⟨r, 1, none⟩ = false
  f2 : w.frozen? ⟨r, 2, none⟩ = false
  f3 : w.frozen? ⟨r, 3, none⟩ = false
theorem Four.kept {w w' : World} {bb r : Nat} {a b c d : Value} (h : Four w r a b c d) (k : Kept bb w w') (hr : r ≠ bb) : Four w' r a b c d := by
  have hn : ∀ i : Nat, (⟨r, i, none⟩ : Addr) ≠ ⟨bb, 1, none⟩ := fun i e => by injection e with e; exact hr e
  have hlt : r < w.heap.size := block_lt_of_cell h.c0
  exact ⟨k.get h.c0 (hn _), k.get h.c1 (hn _), k.get h.c2 (hn _), k.get h.c3 (hn _), (k.frozen ⟨r, 0, none⟩ hlt).trans h.f0, (k.frozen ⟨r, 1, none⟩ hlt).trans h.f1, (k.frozen ⟨r, 2, none⟩ hlt).trans h.f2, (k.frozen ⟨r, 3, none⟩ hlt).trans h.f3⟩
theorem Four.new (w : World) : Four (w.alloc (.cells #[.pointer none, .int .i64 0, .int .i64 0, .int .i64 0] 28)) w.heap.size (.pointer none) (.int .i64 0) (.int .i64 0) (.int .i64 0) := by
  refine ⟨?_, ?_, ?_, ?_, ?_, ?_, ?_, ?_⟩
  · rw [World.cell?_alloc_new]; rfl
  · rw [World.cell?_alloc_new]; rfl
  · rw [World.cell?_alloc_new]; rfl
  · rw [World.cell?_alloc_new]; rfl
  · simp [go_sem]
  · simp [go_sem]
  · simp [go_sem]
  · simp [go_sem]
theorem Kept.own {bb r i : Nat} {w w' : World} (h : Kept bb w w') (hr : w.heap.size ≤ r) (v : Value) : Kept bb w (w'.setCell ⟨r, i, none⟩ v) :=
  ⟨h.os, h.tape, h.output, by simpa [World.setCell] using h.size, fun k hk hn => (Below.heap_setCell _ _ _ _ (show k ≠ r by omega)).trans (h.block k hk hn),
    fun a ha hn => (World.cell?_setCell_other _ _ _ _ (fun e => by subst e; exact absurd ha (by simpa using hr))).trans (h.cell a ha hn), fun a ha => (World.frozen?_setCell _ _ _ _).trans (h.frozen a ha)⟩
theorem ErrIs.own {w : World} {bb r i : Nat} {x : Bool} (h : ErrIs w bb x) (hr : r ≠ bb) (v : Value) : ErrIs (w.setCell ⟨r, i, none⟩ v) bb x := by
  have hc : (w.setCell ⟨r, i, none⟩ v).cell? ⟨bb, 1, none⟩ = w.cell? ⟨bb, 1, none⟩ := World.cell?_setCell_other _ _ _ _ (fun e => by injection e with e; exact hr e)
  cases x with
  | false => exact hc.trans h
  | true => obtain ⟨a, ha⟩ := h; exact ⟨a, hc.trans ha⟩

set_option maxHeartbeats 800000 in
theorem table_out (bb n c : Nat) (ao : Option Addr) (zs : List Int) (p : Int) (w : World) (h : Buf w bb ao n c zs) (he : ErrIs w bb false) (h0 : 0 ≤ p) (h1 : (n : Int) - 4 < p) :
    Calls Tryf.prog 22 #[.pointer (some ⟨bb, 0, none⟩), .int .i64 p] w fun e w' => e = .returned noTable ∧ Kept bb w w' ∧ ErrIs w' bb true := by
  have hk0 := fun ob => (Kept.of_below (bb := bb) ((Below.refl w.heap.size w).alloc (Nat.le_refl _) ob))
  have hlt := block_lt_of_cell h.b
  have C1 := fun s ob => inside_no bb n c ao zs p 4 s (w.alloc ob) (h.kept (hk0 ob)) (he.below ((Below.refl w.heap.size w).alloc (Nat.le_refl _) ob)) h0 (by omega) (by omega)
  have F0 := Four.new w
  clear h he h1
  go_enter Tryf.func22, Tryf.ntmps22
  go_wp2_with fail
  refine (C1 _ _).mono ?_
  rintro e w1 ⟨rfl, hk1, he1⟩
  obtain ⟨q0, q1, q2, q3, q4, q5, q6, q7⟩ := F0.kept hk1 (show w.heap.size ≠ bb by omega)
  have HK : Hid (Kept bb w w1) := (hk0 _).trans hk1
  have HE2 : Hid (ErrIs w1 bb true) := he1
  clear hk1 he1 C1 hk0 F0 
  go_wp2
  refine bodyPost_ret (v := noTable) (by simp [results, Tryf.results22, go_sem, noTable, q0, q1, q2, q3]) rfl ⟨rfl, (((HK.out.own (Nat.le_refl _) _).own (Nat.le_refl _) _).own (Nat.le_refl _) _).own (Nat.le_refl _) _, (((HE2.out.own (by omega) _).own (by omega) _).own (by omega) _).own (by omega) _⟩
end Go.Proofs.Qxb6617024aFmt

import Derived.Test.Qxb6617024aFmtTz
namespace Go.Proofs.Qxb6617024aFmt
open Go.RowKit Go.Extern.Stop Go.Stop Go.Extern

/-- The copy is made, and a new buffer over it would be whole. -/
def Ready (w : World) (co : Option Addr) (n c2 : Nat) (zs : List Int) (w1 : World) : Prop :=
  Below w.heap.size w w1 ∧ Buf (w1.alloc (bufObj co n c2)) w1.heap.size co n c2 zs

theorem newBuf_err (w1 : World) (co : Option Addr) (n c2 : Nat) : ErrIs (w1.alloc (bufObj co n c2)) w1.heap.size false := by
  show _ = _
  rw [bufObj, World.cell?_alloc_new]
  rfl
theorem newBuf_b (w1 : World) (co : Option Addr) (n c2 : Nat) : (w1.alloc (bufObj co n c2)).cell? ⟨w1.heap.size, 0, none⟩ = some (.slice co n c2) := by
  rw [bufObj, World.cell?_alloc_new]
  rfl
theorem newBuf_fz (w1 : World) (co : Option Addr) (n c2 : Nat) : (w1.alloc (bufObj co n c2)).frozen? ⟨w1.heap.size, 1, none⟩ = false := by
  simp [bufObj, go_sem]

theorem ready_fill {w w1 : World} {n : Nat} {zs : List Int} (h : Fill w w1 w.heap.size n n zs) (hl : zs.length = n) (hs : n ≤ 1048576) (hw : ∀ z ∈ zs, 0 ≤ z ∧ z ≤ 255) : Ready w (some ⟨w.heap.size, 0, none⟩) n n zs w1 := by
  have hlt := h.lt
  refine ⟨h.below, newBuf_b _ _ _ _, newBuf_fz _ _ _ _, hl, hs, Nat.le_refl _, fun _ => ⟨w.heap.size, 0, rfl, by omega, fun j z hz => ?_⟩, hw⟩
  have := h.done j z (by have := (List.getElem?_eq_some_iff.1 hz).1; omega) hz
  rw [Nat.zero_add]
  exact cell_below (al w1 _) this
theorem ready_nil (w : World) : Ready w none 0 0 [] w :=
  ⟨Below.refl _ _, newBuf_b _ _ _ _, newBuf_fz _ _ _ _, rfl, by omega, by omega, fun h => absurd h (by omega), fun z hz => by cases hz⟩
end Go.Proofs.Qxb6617024aFmt

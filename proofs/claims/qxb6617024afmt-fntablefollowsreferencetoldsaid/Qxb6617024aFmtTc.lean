import Derived.Test.Qxb6617024aFmtTb
namespace Go.Proofs.Qxb6617024aFmt
open Go.RowKit Go.Extern.Stop Go.Stop Go.Extern

theorem cell_below {w w' : World} (hb : Below w.heap.size w w') {a : Addr} {v : Value} (h : w.cell? a = some v) : w'.cell? a = some v := by
  rw [hb.cell (block_lt_of_cell h)]; exact h
theorem frozen_below {w w' : World} (hb : Below w.heap.size w w') {a : Addr} (ha : a.block < w.heap.size) {f : Bool} (h : w.frozen? a = f) : w'.frozen? a = f := by
  rw [hb.frozen ha]; exact h

/-- All that lay, lies, but for the one cell that holds the buffer's error. -/
structure Kept (bb : Nat) (w w' : World) : Prop where
  os : w'.os = w.os
  tape : w'.tape = w.tape
  output : w'.output = w.output
  size : w.heap.size ≤ w'.heap.size
  block : ∀ k, k < w.heap.size → k ≠ bb → w'.heap[k]? = w.heap[k]?
  cell : ∀ a : Addr, a.block < w.heap.size → a ≠ ⟨bb, 1, none⟩ → w'.cell? a = w.cell? a
  frozen : ∀ a : Addr, a.block < w.heap.size → w'.frozen? a = w.frozen? a

theorem Kept.of_below {bb : Nat} {w w' : World} (h : Below w.heap.size w w') : Kept bb w w' :=
  ⟨h.os, h.tape, h.output, h.size, fun k hk _ => h.block k hk, fun _ ha _ => h.cell ha, fun _ ha => h.frozen ha⟩
theorem Kept.refl (bb : Nat) (w : World) : Kept bb w w := .of_below (Below.refl _ _)
theorem Kept.trans {bb : Nat} {a b c : World} (h : Kept bb a b) (k : Kept bb b c) : Kept bb a c :=
  ⟨k.os.trans h.os, k.tape.trans h.tape, k.output.trans h.output, Nat.le_trans h.size k.size, fun i hi hn => (k.block i (by have := h.size; omega) hn).trans (h.block i hi hn),
    fun a ha hn => (k.cell a (Nat.lt_of_lt_of_le ha h.size) hn).trans (h.cell a ha hn), fun a ha => (k.frozen a (Nat.lt_of_lt_of_le ha h.size)).trans (h.frozen a ha)⟩
theorem Kept.set {bb : Nat} {w w' : World} (h : Kept bb w w') (v : Value) : Kept bb w (w'.setCell ⟨bb, 1, none⟩ v) :=
  h.trans ⟨rfl, rfl, rfl, by simp [World.setCell], fun k _ hn => Below.heap_setCell _ _ _ _ hn, fun a _ hn => World.cell?_setCell_other _ _ _ _ (Ne.symm hn), fun a _ => World.frozen?_setCell _ _ _ _⟩
/-- Below a buffer of the call's own nothing has turned. -/
theorem Kept.below {bb B : Nat} {w w' : World} (h : Kept bb w w') (hB : B ≤ bb) (hw : B ≤ w.heap.size) : Below B w w' :=
  ⟨h.os, h.tape, h.output, h.size, fun k hk => h.block k (by omega) (by omega)⟩
theorem Kept.get {bb : Nat} {w w' : World} (h : Kept bb w w') {a : Addr} {v : Value} (hc : w.cell? a = some v) (hn : a ≠ ⟨bb, 1, none⟩) : w'.cell? a = some v := by
  rw [h.cell a (block_lt_of_cell hc) hn]; exact hc

/-- The error's cell: none yet, or one. -/
def ErrIs (w : World) (bb : Nat) (bad : Bool) : Prop :=
  if bad then ∃ a, w.cell? ⟨bb, 1, none⟩ = some (.iface 63 (.pointer (some a))) else w.cell? ⟨bb, 1, none⟩ = some .nilIface

set_option maxHeartbeats 800000 in
/-- (*Buffer).fail where no error is kept yet. -/
theorem fail_first (bb b n c : Nat) (f : ByteArray) (ps : List (Nat × UInt8 × Bool)) (w : World) (herr : w.cell? ⟨bb, 1, none⟩ = some .nilIface) (hfz : w.frozen? ⟨bb, 1, none⟩ = false) (hf : f.size ≤ 1000) (hn : ¬ n = 0)
    (hp : ∀ w, (FmtDoors.printed (⟨#[102, 108, 97, 116, 98, 117, 102, 102, 101, 114, 58, 32]⟩ ++ f) n).run Tryf.prog w = .ok ps w) (h119 : ps.filter (fun p => p.2.1 == 119) = [])
    (h : ∀ i verb sharp, (i, verb, sharp) ∈ ps → sharp = false ∧ i < n ∧ ∃ v, w.cell? ⟨b, i, none⟩ = some v ∧ Plain verb v) :
    Calls Tryf.prog 29 #[.pointer (some ⟨bb, 0, none⟩), .string f, .slice (some ⟨b, 0, none⟩) n c] w fun e w' => e = .returned (.tuple #[]) ∧ Kept bb w w' ∧ ErrIs w' bb true := by
  have HE := errorf_any (⟨#[102, 108, 97, 116, 98, 117, 102, 102, 101, 114, 58, 32]⟩ ++ f) b n c ps w hn hp h119 h
  have n1 : ¬ 9223372036854775807 < 12 + f.size := by omega
  have hlt := block_lt_of_cell herr
  clear h hp h119
  go_enter Tryf.func29, Tryf.ntmps29
  go_wp2_with fail
  refine HE.mono ?_
  rintro e w1 ⟨rfl, hb1⟩
  have q1 := cell_below hb1 herr
  have q2 := frozen_below hb1 hlt hfz
  have HB : Hid (Below w.heap.size w w1) := hb1
  clear hb1 herr hfz
  go_wp2
  go_end0
  exact ⟨rfl, (Kept.of_below HB.out).set _, ⟨_, World.cell?_setCell_same _ _ _ q1⟩⟩
end Go.Proofs.Qxb6617024aFmt

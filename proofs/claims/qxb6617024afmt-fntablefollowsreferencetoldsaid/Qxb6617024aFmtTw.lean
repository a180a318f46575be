import Derived.Test.Qxb6617024aFmtTv
import Derived.Laws.CopyOwn
namespace Go.Proofs.Qxb6617024aFmt
open Go.RowKit Go.Extern.Stop Go.Stop Go.Extern

theorem Tryf.info5 : (Tryf.prog.info? 5).map (fun i => (i.zero, i.size, i.bytes)) = some (some (.int .u8 0), 1, 1) := by kernel_rfl
/-- A new row of n bytes. -/
def blank (n : Nat) : Array Value := madeCells (Value.int .u8 0).cells n
theorem size_blank (n : Nat) : (blank n).size = n := by simp [blank, size_madeCells]
theorem make_row (n : Nat) (hn : n ≤ 1048576) (w : World) :
    (Instr.makeSlice 22 (.int .i64 n) (.int .i64 n)).run Tryf.prog w = .ok (.slice (some ⟨w.heap.size, 0, none⟩) n n) (w.alloc (.cells (blank n) 5)) := by
  obtain ⟨i, hi, hz, hs, hb⟩ := info_parts Tryf.info5
  have h := run_make (P := Tryf.prog) w 22 5 i (.int .u8 0) Tryf.underlying22 hi hz .i64 .i64 n n (by omega) (by omega) (by
    rw [hb]
    omega) (by omega)
  rw [h, hs]
  simp [blank]

/-- The row while it is filled. -/
structure Fill (w wr : World) (g n k : Nat) (zs : List Int) : Prop where
  below : Below w.heap.size w wr
  big : w.heap.size ≤ g
  lt : g < wr.heap.size
  room : ∀ j, j < n → (∃ v, wr.cell? ⟨g, j, none⟩ = some v) ∧ wr.frozen? ⟨g, j, none⟩ = false
  done : ∀ (j : Nat) z, j < k → zs[j]? = some z → wr.cell? ⟨g, j, none⟩ = some (.int .u8 z)

theorem Fill.start (w : World) (n : Nat) (zs : List Int) : Fill w (w.alloc (.cells (blank n) 5)) w.heap.size n 0 zs where
  below := (Below.refl _ _).alloc (Nat.le_refl _) _
  big := Nat.le_refl _
  lt := by simp
  room := fun j hj => by
    refine ⟨⟨(blank n)[j]'(by rw [size_blank]; omega), ?_⟩, by simp⟩
    rw [World.cell?_alloc_new, Array.getElem?_eq_getElem]
  done := fun j x h => absurd h (by omega)

theorem Fill.step {w wr : World} {g n k : Nat} {zs : List Int} (h : Fill w wr g n k zs) (hk : k < n) {z : Int} (hz : zs[k]? = some z) : Fill w (wr.setCell ⟨g, k, none⟩ (.int .u8 z)) g n (k + 1) zs := by
  obtain ⟨⟨v, hv⟩, hf⟩ := h.room k hk
  refine ⟨h.below.setCell h.big _, h.big, by simpa [World.setCell] using h.lt, fun j hj => ?_, fun j x hj hx => ?_⟩
  · obtain ⟨⟨u, hu⟩, hfj⟩ := h.room j hj
    refine ⟨?_, by rw [World.frozen?_setCell]; exact hfj⟩
    by_cases e : j = k
    · subst e; exact ⟨_, World.cell?_setCell_same _ _ _ hv⟩
    · exact ⟨u, by rw [World.cell?_setCell_other _ _ _ _ (by intro c; injection c with _ c; omega)]; exact hu⟩
  · by_cases e : j = k
    · subst e
      rw [hz] at hx
      injection hx with hx
      subst hx
      exact World.cell?_setCell_same _ _ _ hv
    · rw [World.cell?_setCell_other _ _ _ _ (by intro c; injection c with _ c; omega)]
      exact h.done j x (by omega) hx

theorem eq_nil (w : World) : (binOp BinOp.eql 22 (.slice none 0 0) (.slice none 0 0)).run Tryf.prog w = .ok (.bool true) w := by kernel_rfl
theorem eq_some (a : Addr) (n c : Nat) (w : World) : (binOp BinOp.eql 22 (.slice (some a) n c) (.slice none 0 0)).run Tryf.prog w = .ok (.bool false) w := by kernel_rfl

set_option maxHeartbeats 400000 in
theorem clone_nil (w : World) : Calls Tryf.prog 8 #[.slice none 0 0] w fun e w' => e = .returned (.slice none 0 0) ∧ w' = w := by
  have heq := eq_nil
  go_enter Tryf.func8, Tryf.ntmps8
  go_wp2
  go_ret
  exact ⟨rfl, rfl⟩

set_option maxHeartbeats 800000 in
theorem clone_some (g o n c : Nat) (zs : List Int) (w : World) (hl : zs.length = n) (hs : n ≤ 1048576) (hr : ∀ (j : Nat) z, zs[j]? = some z → w.cell? ⟨g, o + j, none⟩ = some (.int .u8 z)) :
    Calls Tryf.prog 8 #[.slice (some ⟨g, o, none⟩) n c] w fun e w' => e = .returned (.slice (some ⟨w.heap.size, 0, none⟩) n n) ∧ Fill w w' w.heap.size n n zs := by
  have hmk := make_row n hs
  have HR := hide hr
  have HL : Hid (zs.length = n) := hl
  clear hr hl
  have heq := eq_some
  go_enter Tryf.func8, Tryf.ntmps8
  go_wp2
  go_loopw [4] (fun i wr => ∃ k : Nat, k ≤ n ∧ i = .int .i64 k ∧ Hid (Fill w wr w.heap.size n k zs)) (fun i _ => n - (intOf i).toNat)
  case atStart => exact ⟨0, Nat.zero_le _, rfl, Fill.start w n zs⟩
  case round =>
    obtain ⟨k, hk, rfl, HI⟩ := hrel
    by_cases hlt : k < n
    · obtain ⟨z, hz⟩ : ∃ z, zs[k]? = some z := ⟨_, List.getElem?_eq_getElem (by rw [HL.out]; omega)⟩
      have q1 := cell_below HI.out.below (HR.out k z hz)
      obtain ⟨⟨v, q3⟩, q4⟩ := HI.out.room k hlt
      have q5 := HI.out.lt
      have HX : Hid (zs[k]? = some z) := hz
      clear hz hmk
      go_wp2
      go_roundw
      case rel => exact ⟨k + 1, by omega, by go_num, HI.out.step hlt HX.out⟩
      case measure => simp [intOf]; omega
    · obtain rfl : k = n := by omega
      clear hmk
      go_wp2
      go_ret
      exact ⟨rfl, HI.out⟩
end Go.Proofs.Qxb6617024aFmt

import Derived.Test.Qxb6616845aFb
import Derived.Laws.EntriesVeiled
namespace Go.Proofs.Qxb6616845a
open Go.RowKit Go.Sort

/-- What the answer r is good for: from the start on; refused unless it lies past the end; the line before it is not, unless it is the start. -/
def Good (lower last : Nat) (bs : List Bool) (r : Nat) : Prop :=
  lower ≤ r ∧ r ≤ last + 1 ∧ (r ≤ last → at1 bs r = true) ∧ (lower < r → at1 bs (r - 1) = false)

theorem good_out (last : Nat) (bs : List Bool) : Good 1 last bs (1 + srch (fun i => at1 bs (i + 1)) last 0 last) := by
  have h := srch_good (fun i => at1 bs (i + 1)) last last 0 last (by omega) (by omega) (by omega) (by omega) (by omega)
  generalize srch (fun i => at1 bs (i + 1)) last 0 last = s at *
  obtain ⟨h1, h2, h3⟩ := h
  refine ⟨by omega, by omega, fun h => ?_, fun h => ?_⟩
  · rw [Nat.add_comm]; exact h2 (by omega)
  · have := h3 (by omega)
    rwa [show s - 1 + 1 = 1 + s - 1 by omega] at this

theorem good_in (nm hi last : Nat) (bs : List Bool) (h0 : 1 ≤ nm) (h1 : nm ≤ hi) (h2 : hi ≤ last) (hp : at1 bs hi = true) : Good nm last bs (nm + srch (fun i => at1 bs (nm + i)) (hi - nm) 0 (hi - nm)) := by
  have h := srch_good (fun i => at1 bs (nm + i)) (hi - nm) (hi - nm) 0 (hi - nm) (by omega) (by omega) (by omega) (by omega) (by omega)
  generalize srch (fun i => at1 bs (nm + i)) (hi - nm) 0 (hi - nm) = s at *
  obtain ⟨g1, g2, g3⟩ := h
  refine ⟨by omega, by omega, fun _ => ?_, fun h => ?_⟩
  · by_cases he : s < hi - nm
    · exact g2 he
    · rw [show nm + s = hi by omega]; exact hp
  · have := g3 (by omega)
    rwa [show nm + (s - 1) = nm + s - 1 by omega] at this

/-- The two boxes that faultLine lays. -/
def boxed (w : World) (nm : Int) (rb : Nat) : World :=
  (w.alloc (.cells #[.int .i64 nm] 3)).alloc (.cells #[.func (.func 9) #[] #[.pointer (some ⟨rb, 0, none⟩)]] 26)

theorem boxed_below (w : World) (nm : Int) (rb : Nat) : Below w.heap.size w (boxed w nm rb) := ((Below.refl _ _).alloc (Nat.le_refl _) _).alloc (by simp) _
theorem boxed_nm (w : World) (nm : Int) (rb : Nat) : (boxed w nm rb).cell? ⟨w.heap.size, 0, none⟩ = some (.int .i64 nm) := by simp [boxed]
theorem boxed_fn (w : World) (nm : Int) (rb : Nat) : (boxed w nm rb).cell? ⟨w.heap.size + 1, 0, none⟩ = some (.func (.func 9) #[] #[.pointer (some ⟨rb, 0, none⟩)]) := by simp [boxed]

theorem enter11 (args : Array Value) (w : World) : (callFunc 11 args).run Try.prog w = .ok (.enter 11 args) w := by simp [go_sem]
theorem enter12 (args : Array Value) (w : World) : (callFunc 12 args).run Try.prog w = .ok (.enter 12 args) w := by simp [go_sem]

set_option maxRecDepth 100000 in
set_option maxHeartbeats 800000 in
theorem fault_out (last rb : Nat) (nm : Int) (bs : List Bool) (w : World) (h : Tab w rb last bs) (ho : nm < 1 ∨ (last : Int) < nm) :
    Calls Try.prog 8 #[.int .i64 last, .int .i64 nm, .func (.func 9) #[] #[.pointer (some ⟨rb, 0, none⟩)]] w fun e w' => (∃ r : Nat, e = .returned (.int .i64 r) ∧ Good 1 last bs r) ∧ Below w.heap.size w w' := by
  have hg := good_out last bs
  have hb0 := boxed_below w nm rb
  have HS := search_any 11 #[.pointer (some ⟨w.heap.size + 1, 0, none⟩)] last (fun i => at1 bs (i + 1)) (boxed w nm rb) enter11 h.small
    (fun W i hi hb => by
      have := first_any (i : Int) (w.heap.size + 1) rb last bs W ((h.below hb0).below hb) (cell_below hb (boxed_fn w nm rb)) (by omega) (by omega)
      rwa [show ((i : Int) + 1).toNat = i + 1 by omega] at this)
  have hs := h.small
  have hsl : srch (fun i => at1 bs (i + 1)) last 0 last ≤ last := (srch_good (fun i => at1 bs (i + 1)) last last 0 last (by omega) (by omega) (by omega) (by omega) (by omega)).1
  generalize srch (fun i => at1 bs (i + 1)) last 0 last = s at *
  have HG : Hid (Good 1 last bs (1 + s)) := hg
  clear hg h
  unfold boxed at HS
  by_cases h1 : nm < 1
  · clear ho
    go_enter Try.func8, Try.ntmps8
    go_wp2_with fail
    refine HS.mono ?_
    rintro e w1 ⟨rfl, hb1⟩
    go_wp2
    go_ret
    exact ⟨⟨1 + s, by go_num, HG.out⟩, hb0.trans (hb1.mono hb0.size)⟩
  · have h2 : (last : Int) < nm := by omega
    clear ho
    go_enter Try.func8, Try.ntmps8
    go_wp2_with fail
    refine HS.mono ?_
    rintro e w1 ⟨rfl, hb1⟩
    go_wp2
    go_ret
    exact ⟨⟨1 + s, by go_num, HG.out⟩, hb0.trans (hb1.mono hb0.size)⟩
end Go.Proofs.Qxb6616845a

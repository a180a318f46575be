import Derived.Test.Qxb6617024aFmtTp
namespace Go.Proofs.Qxb6617024aFmt
open Go.RowKit Go.Extern.Stop Go.Stop Go.Extern

theorem box_cells {w w1 : World} {a b c d : Value} {E : TypeId} (hb : Below (w.alloc (.cells #[a, b, c, d] E)).heap.size (w.alloc (.cells #[a, b, c, d] E)) w1) :
    w1.cell? ⟨w.heap.size, 0, none⟩ = some a ∧ w1.cell? ⟨w.heap.size, 1, none⟩ = some b ∧ w1.cell? ⟨w.heap.size, 2, none⟩ = some c ∧ w1.cell? ⟨w.heap.size, 3, none⟩ = some d :=
  ⟨cell_below hb (by rw [World.cell?_alloc_new]; rfl), cell_below hb (by rw [World.cell?_alloc_new]; rfl), cell_below hb (by rw [World.cell?_alloc_new]; rfl), cell_below hb (by rw [World.cell?_alloc_new]; rfl)⟩

set_option maxHeartbeats 800000 in
theorem field_zero (bb n c : Nat) (ao : Option Addr) (zs : List Int) (p vt sl s : Int) (w : World) (h : Buf w bb ao n c zs) (he : ErrIs w bb false) (h0 : 0 ≤ s) (h1 : s < sl) (hv0 : 0 ≤ vt) (hv1 : vt + 4 + 2 * s + 2 ≤ n) (ho : le16 zs (vt + 4 + 2 * s) = 0) :
    Calls Tryf.prog 25 #[isTable bb p vt sl, .int .i64 s, .int .i64 4] w fun e w' => e = .returned (.int .i64 (-1)) ∧ Below w.heap.size w w' := by
  unfold isTable
  have hb0 := fun ob => (Below.refl w.heap.size w).alloc (Nat.le_refl _) ob
  have C1 := fun ob => u16_walk bb n c (vt + 4 + 2 * s) ao zs (w.alloc ob) (h.kept (Kept.of_below (hb0 ob))) (by omega) (by omega)
  rw [ho] at C1
  have he' : w.cell? ⟨bb, 1, none⟩ = some .nilIface := he
  have hq := fun ob => cell_below (hb0 ob) he'
  have hs := h.small
  clear he h ho hb0
  go_enter Tryf.func25, Tryf.ntmps25
  go_wp2_with fail
  refine (C1 _).mono ?_
  rintro e w1 ⟨rfl, hb1⟩
  have HB : Hid (Below w.heap.size w w1) := ((Below.refl w.heap.size w).alloc (Nat.le_refl _) _).trans (hb1.mono (by simp))
  clear hb1 C1
  go_wp2
  go_ret
  exact ⟨rfl, HB.out⟩

set_option maxRecDepth 100000 in
set_option maxHeartbeats 800000 in
theorem field_low (bb n c : Nat) (ao : Option Addr) (zs : List Int) (p vt sl s off : Int) (w : World) (h : Buf w bb ao n c zs) (he : ErrIs w bb false) (h0 : 0 ≤ s) (h1 : s < sl) (hv0 : 0 ≤ vt) (hv1 : vt + 4 + 2 * s + 2 ≤ n) (ho : le16 zs (vt + 4 + 2 * s) = off) (o1 : 0 < off) (o2 : off < 4) :
    Calls Tryf.prog 25 #[isTable bb p vt sl, .int .i64 s, .int .i64 4] w fun e w' => e = .returned (.int .i64 (-1)) ∧ Kept bb w w' ∧ ErrIs w' bb true := by
  unfold isTable
  have hb0 := fun ob => (Below.refl w.heap.size w).alloc (Nat.le_refl _) ob
  have C1 := fun ob => u16_walk bb n c (vt + 4 + 2 * s) ao zs (w.alloc ob) (h.kept (Kept.of_below (hb0 ob))) (by omega) (by omega)
  rw [ho] at C1
  have he' : w.cell? ⟨bb, 1, none⟩ = some .nilIface := he
  have hq := fun ob => cell_below (hb0 ob) he'
  have hs := h.small
  have HH : Hid (Buf w bb ao n c zs) := h
  have HE : Hid (ErrIs w bb false) := he
  clear he h ho hb0
  go_enter Tryf.func25, Tryf.ntmps25
  go_wp2_with fail
  refine (C1 _).mono ?_
  rintro e w1 ⟨rfl, hb1⟩
  obtain ⟨q0, q1, q2, q3⟩ := box_cells hb1
  have HB : Hid (Below w.heap.size w w1) := ((Below.refl w.heap.size w).alloc (Nat.le_refl _) _).trans (hb1.mono (by simp))
  have HX := fun E => fail_slot bb s p w1 (HE.out.below HB.out) (HH.out.kept (Kept.of_below HB.out)).fz E
  clear hb1 C1
  go_wp2_with fail
  refine (HX _).mono ?_
  rintro e w9 ⟨rfl, hk9, he9⟩
  have HK9 : Hid (Kept bb w w9) := (Kept.of_below HB.out).trans hk9
  have HE9 : Hid (ErrIs w9 bb true) := he9
  clear hk9 he9 HX
  go_wp2
  go_ret
  exact ⟨rfl, HK9.out, HE9.out⟩

set_option maxRecDepth 100000 in
set_option maxHeartbeats 800000 in
theorem field_ok (bb n c : Nat) (ao : Option Addr) (zs : List Int) (p vt sl s off : Int) (w : World) (h : Buf w bb ao n c zs) (he : ErrIs w bb false) (h0 : 0 ≤ s) (h1 : s < sl) (hv0 : 0 ≤ vt) (hv1 : vt + 4 + 2 * s + 2 ≤ n) (hp0 : 0 ≤ p) (hp1 : p ≤ n - 4) (ho : le16 zs (vt + 4 + 2 * s) = off) (o2 : 4 ≤ off) (o3 : off ≤ (n : Int) - p - 4) :
    Calls Tryf.prog 25 #[isTable bb p vt sl, .int .i64 s, .int .i64 4] w fun e w' => e = .returned (.int .i64 (p + off)) ∧ Below w.heap.size w w' := by
  unfold isTable
  have hb0 := fun ob => (Below.refl w.heap.size w).alloc (Nat.le_refl _) ob
  have C1 := fun ob => u16_walk bb n c (vt + 4 + 2 * s) ao zs (w.alloc ob) (h.kept (Kept.of_below (hb0 ob))) (by omega) (by omega)
  rw [ho] at C1
  have he' : w.cell? ⟨bb, 1, none⟩ = some .nilIface := he
  have hq := fun ob => cell_below (hb0 ob) he'
  have hs := h.small
  have HH : Hid (Buf w bb ao n c zs) := h
  have HE : Hid (ErrIs w bb false) := he
  clear he h ho hb0
  go_enter Tryf.func25, Tryf.ntmps25
  go_wp2_with fail
  refine (C1 _).mono ?_
  rintro e w1 ⟨rfl, hb1⟩
  obtain ⟨q0, q1, q2, q3⟩ := box_cells hb1
  have HB : Hid (Below w.heap.size w w1) := ((Below.refl w.heap.size w).alloc (Nat.le_refl _) _).trans (hb1.mono (by simp))
  have qb := (HH.out.kept (Kept.of_below HB.out)).b
  have k0 := cell_regrown q0
  have k1 := cell_regrown q1
  have kb := cell_regrown qb
  clear hb1 C1
  go_wp2_with fail
  refine wp_region_quiet_below (by kernel_rfl) (by kernel_rfl) ?_
  repeat (go_big_quiet_step (fail))
  refine wpQuiet_nil ?_
  intro _ hw'
  obtain ⟨⟨dq, osq⟩, hw''⟩ := hw'
  subst hw''
  go_wp2
  go_ret
  exact ⟨rfl, HB.out.trans ((below_regrown w1 dq osq).mono HB.out.size)⟩
end Go.Proofs.Qxb6617024aFmt

import Derived.Test.Qxb6617024aFmtTq
import Derived.Deep.Cut
namespace Go.Proofs.Qxb6617024aFmt
open Go.RowKit Go.Extern.Stop Go.Stop Go.Extern

set_option maxRecDepth 100000 in
set_option maxHeartbeats 2000000 in
theorem field_far (bb n c : Nat) (ao : Option Addr) (zs : List Int) (p vt sl s off : Int) (w : World) (h : Buf w bb ao n c zs) (he : ErrIs w bb false) (h0 : 0 ≤ s) (h1 : s < sl) (hv0 : 0 ≤ vt) (hv1 : vt + 4 + 2 * s + 2 ≤ n) (hp0 : 0 ≤ p) (hp1 : p ≤ n - 4) (ho : le16 zs (vt + 4 + 2 * s) = off) (o2 : 4 ≤ off) (o3 : (n : Int) - p - 4 < off) :
    Calls Tryf.prog 25 #[isTable bb p vt sl, .int .i64 s, .int .i64 4] w fun e w' => e = .returned (.int .i64 (-1)) ∧ Kept bb w w' ∧ ErrIs w' bb true := by
  unfold isTable
  have hb0 := fun ob => (Below.refl w.heap.size w).alloc (Nat.le_refl _) ob
  have C1 := fun ob => u16_walk bb n c (vt + 4 + 2 * s) ao zs (w.alloc ob) (h.kept (Kept.of_below (hb0 ob))) (by omega) (by omega)
  rw [ho] at C1
  have he' : w.cell? ⟨bb, 1, none⟩ = some .nilIface := he
  have hq := fun ob => cell_below (hb0 ob) he'
  have hs := h.small
  have HH : Hid (Buf w bb ao n c zs) := h
  have HE : Hid (ErrIs w bb false) := he
  clear he h ho hb0
  go_enter Tryf.func25, Tryf.ntmps25
  go_wp2_with fail
  refine (C1 _).mono ?_
  rintro e w1 ⟨rfl, hb1⟩
  obtain ⟨q0, q1, q2, q3⟩ := box_cells hb1
  have HB : Hid (Below w.heap.size w w1) := ((Below.refl w.heap.size w).alloc (Nat.le_refl _) _).trans (hb1.mono (by simp))
  have qb := (HH.out.kept (Kept.of_below HB.out)).b
  have k0 := cell_regrown q0
  have k1 := cell_regrown q1
  have kb := cell_regrown qb
  clear hb1 C1
  go_wp2_with fail
  refine wp_region_quiet_below (by kernel_rfl) (by kernel_rfl) ?_
  repeat (go_big_quiet_step (fail))
  refine wpQuiet_nil ?_
  intro _ hw'
  obtain ⟨⟨dq, osq⟩, hw''⟩ := hw'
  rename_i w2
  have hb2 : Below w1.heap.size w1 w2 := by rw [hw'']; exact below_regrown w1 dq osq
  clear hw'' k0 k1 kb
  have hbd := hb2.drew
  have m0 := cell_below hbd q0
  have m1 := cell_below hbd q1
  have mb := cell_below hbd qb
  have n0 := fun ob => cell_below ((Below.refl w2.drew.heap.size w2.drew).alloc (Nat.le_refl _) ob) m0
  have n1 := fun ob => cell_below ((Below.refl w2.drew.heap.size w2.drew).alloc (Nat.le_refl _) ob) m1
  have nb := fun ob => cell_below ((Below.refl w2.drew.heap.size w2.drew).alloc (Nat.le_refl _) ob) mb
  have m0' := cell_below hb2 q0
  have m1' := cell_below hb2 q1
  have mb' := cell_below hb2 qb
  have z0 : w.heap.size < w2.heap.size := block_lt_of_cell m0'
  have z1 : ¬ w.heap.size = w2.heap.size := by omega
  have z2 : bb < w2.heap.size := block_lt_of_cell mb'
  have z3 : ¬ bb = w2.heap.size := by omega
  clear hbd
  have HB2 : Hid (Below w.heap.size w w2) := HB.out.trans (hb2.mono HB.out.size)
  have he2 : ErrIs w2.drew bb false := HE.out.below HB2.out.drew
  have hf2 : w2.drew.frozen? ⟨bb, 1, none⟩ = false := (HH.out.kept (Kept.of_below HB2.out.drew)).fz
  have HX := hide (fun E => fail_field bb 4 s p n w2.drew he2 hf2 E)
  clear hb2 q0 q1 qb q2 q3 HB he2 hf2 HH HE
  go_wp2_with fail
  go_region_with (go_at_call 29; refine (HX.out _).mono ?_; rintro e w9 ⟨rfl, hk9, he9⟩)
  all_goals (have HK9 := hide ((Kept.of_below HB2.out.drew).trans hk9))
  all_goals (have HE9 := hide he9)
  all_goals clear hk9 he9 HX m0 m1 mb n0 n1 nb
  all_goals go_wp2
  all_goals go_ret
  all_goals exact ⟨rfl, HK9.out, HE9.out⟩
end Go.Proofs.Qxb6617024aFmt

import Derived.Test.Qxb6616845aFe
namespace Go.Proofs.Qxb6616845a
open Go.RowKit Go.Sort

set_option maxRecDepth 100000 in
set_option maxHeartbeats 2000000 in
theorem bound_in (ao : Option Addr) (n c : Nat) (nm : Nat) (bs : List Bool) (w : World) (h : BW w ao n bs) (hn : n ≤ 65536) (h1 : 1 ≤ nm) (h2 : nm ≤ n) :
    Calls Try.prog 4 #[.int .i64 nm, .slice ao n c] w fun e w' => e = .returned (.bool true) ∧ Below w.heap.size w w' := by
  have H7 := bytes7 nm ao n c w h.small
  have H : Hid (BW w ao n bs) := h
  have HLO : Hid (lowerOf (nm : Int) n = nm) := by show lowerOf (nm : Int) n = nm; unfold lowerOf; rw [if_pos (by omega), Int.toNat_natCast]
  clear h
  have hd1 : decide ((1 : Int) ≤ (nm : Int)) = true := decide_eq_true (by omega)
  have hd2 : decide (nm ≤ n) = true := decide_eq_true (by omega)
  go_enter Try.func4, Try.ntmps4
  go_wp2_with fail
  refine H7.mono ?_
  rintro e w' ⟨⟨b, rfl⟩, hw⟩
  subst w'
  clear H7
  cases b
  · go_wp2
    go_ret
    exact ⟨rfl, Below.refl _ _⟩
  go_upto_if 17 with (fail)
  go_cut [1] from 9 (fun s1 wc => ∃ ao c, s1 = .slice ao n c ∧ Hid (BW wc ao n bs) ∧ Hid (Below w.heap.size w wc))
  case first =>
    cases ao with
    | none =>
      have hnil := fun w => run_neq_slice_nil_any (P := Try.prog) w 22 4 none n c 0 0 Try.underlying22
      go_wp2
      go_meet
      case rel => exact ⟨_, _, rfl, H, Below.refl _ _⟩
    | some a =>
      have hnil := fun w => run_neq_slice_nil_any (P := Try.prog) w 22 4 (some a) n c 0 0 Try.underlying22
      have hmk := make_bools n (by omega)
      obtain ⟨W, hcp, hW, hbW⟩ := H.out.copied c
      have HW : Hid (BW W (some ⟨w.heap.size, 0, none⟩) n bs) := hW
      clear hW
      go_wp2
      go_meet
      case rel => exact ⟨_, _, rfl, HW, hbW⟩
  case rest =>
  obtain ⟨ao', c', rfl, HB, HBl⟩ := hcut
  obtain ⟨w1, hw1⟩ : ∃ w1, w1 = wc := ⟨_, rfl⟩
  subst wc
  clear H
  have H6 := zz_any nm ao' n c' bs w1 HB.out hn
  rw [HLO.out] at H6
  go_wp2_with fail
  refine H6.mono ?_
  rintro e w2 ⟨⟨r, rfl, hg⟩, hb2⟩
  have HW2 : Hid (BW w2 ao' n bs) := HB.out.below hb2
  have HBB : Hid (Below w.heap.size w w2) := HBl.out.trans (hb2.mono HBl.out.size)
  obtain ⟨g1, g2, g3, g4⟩ := hg
  have G3 : Hid (r ≤ n → at1 bs r = true) := g3
  have G4 : Hid (nm < r → at1 bs (r - 1) = false) := g4
  clear H6 hb2 HB HBl g3 g4
  obtain ⟨r1, rfl⟩ : ∃ r1, r = r1 + 1 := ⟨r - 1, by omega⟩
  by_cases hr : r1 + 1 ≤ n
  · obtain ⟨g, o, e, hc⟩ := HW2.out.at' (by omega)
    subst e
    have q1 := hc r1 _ (at1_get (bs := bs) (i := r1 + 1) (by omega) (by rw [HW2.out.len]; omega))
    rw [G3.out hr] at q1
    by_cases hl : nm < r1 + 1
    · obtain ⟨r2, rfl⟩ : ∃ r2, r1 = r2 + 1 := ⟨r1 - 1, by omega⟩
      have q2 := hc r2 _ (at1_get (bs := bs) (i := r2 + 1) (by omega) (by rw [HW2.out.len]; omega))
      have q3 := G4.out hl
      rw [Nat.add_sub_cancel] at q3
      rw [q3] at q2
      clear hc q3
      go_wp2
      go_ret
      exact ⟨rfl, HBB.out⟩
    · clear hc
      go_wp2
      go_ret
      exact ⟨rfl, HBB.out⟩
  · by_cases hl : nm < r1 + 1
    · obtain ⟨r2, rfl⟩ : ∃ r2, r1 = r2 + 1 := ⟨r1 - 1, by omega⟩
      obtain ⟨g, o, e, hc⟩ := HW2.out.at' (by omega)
      subst e
      have q2 := hc r2 _ (at1_get (bs := bs) (i := r2 + 1) (by omega) (by rw [HW2.out.len]; omega))
      have q3 := G4.out hl
      rw [Nat.add_sub_cancel] at q3
      rw [q3] at q2
      clear hc q3
      go_wp2
      go_ret
      exact ⟨rfl, HBB.out⟩
    · exfalso; omega

set_option maxRecDepth 100000 in
set_option maxHeartbeats 2000000 in
theorem bound_low (ao : Option Addr) (n c : Nat) (nm : Int) (bs : List Bool) (w : World) (h : BW w ao n bs) (hn : n ≤ 65536) (h1 : nm < 1) :
    Calls Try.prog 4 #[.int .i64 nm, .slice ao n c] w fun e w' => e = .returned (.bool true) ∧ Below w.heap.size w w' := by
  have H7 := bytes7 nm ao n c w h.small
  have H : Hid (BW w ao n bs) := h
  have HLO : Hid (lowerOf nm n = 1) := by show lowerOf nm n = 1; unfold lowerOf; rw [if_neg (by omega)]
  clear h
  have hd1 : decide ((1 : Int) ≤ nm) = false := decide_eq_false (by omega)
  go_enter Try.func4, Try.ntmps4
  go_wp2_with fail
  refine H7.mono ?_
  rintro e w' ⟨⟨b, rfl⟩, hw⟩
  subst w'
  clear H7
  cases b
  · go_wp2
    go_ret
    exact ⟨rfl, Below.refl _ _⟩
  go_upto_if 17 with (fail)
  go_cut [1] from 9 (fun s1 wc => ∃ ao c, s1 = .slice ao n c ∧ Hid (BW wc ao n bs) ∧ Hid (Below w.heap.size w wc))
  case first =>
    cases ao with
    | none =>
      have hnil := fun w => run_neq_slice_nil_any (P := Try.prog) w 22 4 none n c 0 0 Try.underlying22
      go_wp2
      go_meet
      case rel => exact ⟨_, _, rfl, H, Below.refl _ _⟩
    | some a =>
      have hnil := fun w => run_neq_slice_nil_any (P := Try.prog) w 22 4 (some a) n c 0 0 Try.underlying22
      have hmk := make_bools n (by omega)
      obtain ⟨W, hcp, hW, hbW⟩ := H.out.copied c
      have HW : Hid (BW W (some ⟨w.heap.size, 0, none⟩) n bs) := hW
      clear hW
      go_wp2
      go_meet
      case rel => exact ⟨_, _, rfl, HW, hbW⟩
  case rest =>
  obtain ⟨ao', c', rfl, HB, HBl⟩ := hcut
  obtain ⟨w1, hw1⟩ : ∃ w1, w1 = wc := ⟨_, rfl⟩
  subst wc
  clear H
  have H6 := zz_any nm ao' n c' bs w1 HB.out hn
  rw [HLO.out] at H6
  go_wp2_with fail
  refine H6.mono ?_
  rintro e w2 ⟨⟨r, rfl, hg⟩, hb2⟩
  have HW2 : Hid (BW w2 ao' n bs) := HB.out.below hb2
  have HBB : Hid (Below w.heap.size w w2) := HBl.out.trans (hb2.mono HBl.out.size)
  obtain ⟨g1, g2, g3, g4⟩ := hg
  have G3 : Hid (r ≤ n → at1 bs r = true) := g3
  have G4 : Hid (1 < r → at1 bs (r - 1) = false) := g4
  clear H6 hb2 HB HBl g3 g4
  obtain ⟨r1, rfl⟩ : ∃ r1, r = r1 + 1 := ⟨r - 1, by omega⟩
  by_cases hr : r1 + 1 ≤ n
  · obtain ⟨g, o, e, hc⟩ := HW2.out.at' (by omega)
    subst e
    have q1 := hc r1 _ (at1_get (bs := bs) (i := r1 + 1) (by omega) (by rw [HW2.out.len]; omega))
    rw [G3.out hr] at q1
    by_cases hl : 1 < r1 + 1
    · obtain ⟨r2, rfl⟩ : ∃ r2, r1 = r2 + 1 := ⟨r1 - 1, by omega⟩
      have q2 := hc r2 _ (at1_get (bs := bs) (i := r2 + 1) (by omega) (by rw [HW2.out.len]; omega))
      have q3 := G4.out hl
      rw [Nat.add_sub_cancel] at q3
      rw [q3] at q2
      clear hc q3
      go_wp2
      go_ret
      exact ⟨rfl, HBB.out⟩
    · clear hc
      go_wp2
      go_ret
      exact ⟨rfl, HBB.out⟩
  · by_cases hl : 1 < r1 + 1
    · obtain ⟨r2, rfl⟩ : ∃ r2, r1 = r2 + 1 := ⟨r1 - 1, by omega⟩
      obtain ⟨g, o, e, hc⟩ := HW2.out.at' (by omega)
      subst e
      have q2 := hc r2 _ (at1_get (bs := bs) (i := r2 + 1) (by omega) (by rw [HW2.out.len]; omega))
      have q3 := G4.out hl
      rw [Nat.add_sub_cancel] at q3
      rw [q3] at q2
      clear hc q3
      go_wp2
      go_ret
      exact ⟨rfl, HBB.out⟩
    · go_wp2
      go_ret
      exact ⟨rfl, HBB.out⟩

set_option maxRecDepth 100000 in
set_option maxHeartbeats 2000000 in
theorem bound_high (ao : Option Addr) (n c : Nat) (nm : Int) (bs : List Bool) (w : World) (h : BW w ao n bs) (hn : n ≤ 65536) (h1 : (n : Int) < nm) :
    Calls Try.prog 4 #[.int .i64 nm, .slice ao n c] w fun e w' => e = .returned (.bool true) ∧ Below w.heap.size w w' := by
  have H7 := bytes7 nm ao n c w h.small
  have H : Hid (BW w ao n bs) := h
  have HLO : Hid (lowerOf nm n = 1) := by show lowerOf nm n = 1; unfold lowerOf; rw [if_neg (by omega)]
  clear h
  have hd2 : decide (nm ≤ (n : Int)) = false := decide_eq_false (by omega)
  go_enter Try.func4, Try.ntmps4
  go_wp2_with fail
  refine H7.mono ?_
  rintro e w' ⟨⟨b, rfl⟩, hw⟩
  subst w'
  clear H7
  cases b
  · go_wp2
    go_ret
    exact ⟨rfl, Below.refl _ _⟩
  go_upto_if 17 with (fail)
  go_cut [1] from 9 (fun s1 wc => ∃ ao c, s1 = .slice ao n c ∧ Hid (BW wc ao n bs) ∧ Hid (Below w.heap.size w wc))
  case first =>
    cases ao with
    | none =>
      have hnil := fun w => run_neq_slice_nil_any (P := Try.prog) w 22 4 none n c 0 0 Try.underlying22
      go_wp2
      go_meet
      case rel => exact ⟨_, _, rfl, H, Below.refl _ _⟩
    | some a =>
      have hnil := fun w => run_neq_slice_nil_any (P := Try.prog) w 22 4 (some a) n c 0 0 Try.underlying22
      have hmk := make_bools n (by omega)
      obtain ⟨W, hcp, hW, hbW⟩ := H.out.copied c
      have HW : Hid (BW W (some ⟨w.heap.size, 0, none⟩) n bs) := hW
      clear hW
      go_wp2
      go_meet
      case rel => exact ⟨_, _, rfl, HW, hbW⟩
  case rest =>
  obtain ⟨ao', c', rfl, HB, HBl⟩ := hcut
  obtain ⟨w1, hw1⟩ : ∃ w1, w1 = wc := ⟨_, rfl⟩
  subst wc
  clear H
  have H6 := zz_any nm ao' n c' bs w1 HB.out hn
  rw [HLO.out] at H6
  go_wp2_with fail
  refine H6.mono ?_
  rintro e w2 ⟨⟨r, rfl, hg⟩, hb2⟩
  have HW2 : Hid (BW w2 ao' n bs) := HB.out.below hb2
  have HBB : Hid (Below w.heap.size w w2) := HBl.out.trans (hb2.mono HBl.out.size)
  obtain ⟨g1, g2, g3, g4⟩ := hg
  have G3 : Hid (r ≤ n → at1 bs r = true) := g3
  have G4 : Hid (1 < r → at1 bs (r - 1) = false) := g4
  clear H6 hb2 HB HBl g3 g4
  obtain ⟨r1, rfl⟩ : ∃ r1, r = r1 + 1 := ⟨r - 1, by omega⟩
  by_cases hr : r1 + 1 ≤ n
  · obtain ⟨g, o, e, hc⟩ := HW2.out.at' (by omega)
    subst e
    have q1 := hc r1 _ (at1_get (bs := bs) (i := r1 + 1) (by omega) (by rw [HW2.out.len]; omega))
    rw [G3.out hr] at q1
    by_cases hl : 1 < r1 + 1
    · obtain ⟨r2, rfl⟩ : ∃ r2, r1 = r2 + 1 := ⟨r1 - 1, by omega⟩
      have q2 := hc r2 _ (at1_get (bs := bs) (i := r2 + 1) (by omega) (by rw [HW2.out.len]; omega))
      have q3 := G4.out hl
      rw [Nat.add_sub_cancel] at q3
      rw [q3] at q2
      clear hc q3
      go_wp2
      go_ret
      exact ⟨rfl, HBB.out⟩
    · clear hc
      go_wp2
      go_ret
      exact ⟨rfl, HBB.out⟩
  · by_cases hl : 1 < r1 + 1
    · obtain ⟨r2, rfl⟩ : ∃ r2, r1 = r2 + 1 := ⟨r1 - 1, by omega⟩
      obtain ⟨g, o, e, hc⟩ := HW2.out.at' (by omega)
      subst e
      have q2 := hc r2 _ (at1_get (bs := bs) (i := r2 + 1) (by omega) (by rw [HW2.out.len]; omega))
      have q3 := G4.out hl
      rw [Nat.add_sub_cancel] at q3
      rw [q3] at q2
      clear hc q3
      go_wp2
      go_ret
      exact ⟨rfl, HBB.out⟩
    · go_wp2
      go_ret
      exact ⟨rfl, HBB.out⟩

end Go.Proofs.Qxb6616845a

import Derived.Test.Qxb6616845aFg
import Derived.Deep.CutBlock
namespace Go.Proofs.Qxb6616845a
open Go.ChangeShapes Go.WideShapes Go.ChangeAt Go.RowKit Go.Sort Go.Deep

/-- t is the first refused line, n + 1 where none is. -/
structure First (bs : List Bool) (n t : Nat) : Prop where
  lo : 1 ≤ t
  hi : t ≤ n + 1
  no : ∀ j, 1 ≤ j → j < t → at1 bs j = false
  yes : t ≤ n → at1 bs t = true

theorem first_gt {bs : List Bool} {n t lo r : Nat} (hm : ∀ j, t < j → j ≤ n → at1 bs j = true) (hg : Good lo n bs r) (hl : t < lo) : r = lo := by
  obtain ⟨g1, g2, g3, g4⟩ := hg
  by_cases hr : lo < r
  · have a := g4 hr
    have b := hm (r - 1) (by omega) (by omega)
    rw [b] at a; cases a
  · omega

theorem first_le {bs : List Bool} {n t lo r : Nat} (h : First bs n t) (hm : ∀ j, t < j → j ≤ n → at1 bs j = true) (hg : Good lo n bs r) (hl : lo ≤ t) (h1 : 1 ≤ lo) : r = t := by
  obtain ⟨g1, g2, g3, g4⟩ := hg
  have hhi := h.hi
  by_cases hlt : r < t
  · have a := g3 (by omega)
    have b := h.no r (by omega) hlt
    rw [b] at a; cases a
  · by_cases hgt : t < r
    · have a := g4 (by omega)
      have b : at1 bs (r - 1) = true := by
        by_cases e : r - 1 = t
        · rw [e]; exact h.yes (by omega)
        · exact hm (r - 1) (by omega) (by omega)
      rw [b] at a; cases a
    · omega

/-- The world is the same. -/
def IsSame (w w' : World) : Prop := w' = w

set_option maxRecDepth 100000 in
set_option maxHeartbeats 2000000 in
theorem find_in (ao : Option Addr) (n c : Nat) (nm : Nat) (bs : List Bool) (w : World) (h : BW w ao n bs) (hn : n ≤ 65536) (h1 : 1 ≤ nm) (h2 : nm ≤ n) :
    Calls Try.prog 3 #[.int .i64 nm, .slice ao n c] w fun e w' => e = .returned (.bool true) ∧ Below w.heap.size w w' := by
  have H7 := bytes5 nm ao n c w h.small
  have H : Hid (BW w ao n bs) := h
  have HLO : Hid (lowerOf (nm : Int) n = nm) := by show lowerOf (nm : Int) n = nm; unfold lowerOf; rw [if_pos (by omega), Int.toNat_natCast]
  clear h
  go_enter Try.func3, Try.ntmps3
  go_wp2_with fail
  refine H7.mono ?_
  rintro e w' ⟨⟨b, rfl⟩, hw⟩
  subst w'
  clear H7
  cases b
  · go_wp2
    go_ret
    exact ⟨rfl, Below.refl _ _⟩
  go_upto_if 19 with (fail)
  go_cut [1] from 11 (fun s1 wc => ∃ ao c, s1 = .slice ao n c ∧ Hid (BW wc ao n bs) ∧ Hid (Below w.heap.size w wc))
  case first =>
    cases ao with
    | none =>
      have hnil := fun w => run_neq_slice_nil_any (P := Try.prog) w 22 4 none n c 0 0 Try.underlying22
      go_wp2
      go_meet
      case rel => exact ⟨_, _, rfl, H, Below.refl _ _⟩
    | some a =>
      have hnil := fun w => run_neq_slice_nil_any (P := Try.prog) w 22 4 (some a) n c 0 0 Try.underlying22
      have hmk := make_bools n (by omega)
      obtain ⟨W, hcp, hW, hbW⟩ := H.out.copied c
      have HW : Hid (BW W (some ⟨w.heap.size, 0, none⟩) n bs) := hW
      clear hW
      go_wp2
      go_meet
      case rel => exact ⟨_, _, rfl, HW, hbW⟩
  case rest =>
  obtain ⟨ao', c', rfl, HB, HBl⟩ := hcut
  obtain ⟨w1, hw1⟩ : ∃ w1, w1 = wc := ⟨_, rfl⟩
  subst wc
  clear H
  go_upto_block 0 with (fail)
  go_cut [7, 8] from 11 (fun s7 _ wc => ∃ t : Nat, s7 = .int .i64 t ∧ Hid (First bs n t) ∧ IsSame w1 wc)
  case first =>
    go_wp2_with fail
    go_loop [7, 8] (fun s7 i => ∃ k : Nat, k ≤ n ∧ i = .int .i64 k ∧ s7 = .int .i64 (n + 1 : Nat) ∧ Hid (∀ j, 1 ≤ j → j < k + 1 → at1 bs j = false)) (fun _ i => n - (intOf i).toNat)
    case atStart => exact ⟨0, Nat.zero_le _, rfl, by go_num, fun j h1 h2 => by omega⟩
    case round =>
      obtain ⟨k, hk, rfl, rfl, HA⟩ := hrel
      by_cases hlt : k < n
      · obtain ⟨g, o, e, hc⟩ := HB.out.at' (by omega)
        subst e
        have q1 := hc k _ (at1_get (bs := bs) (i := k + 1) (by omega) (by rw [HB.out.len]; omega))
        cases hp : at1 bs (k + 1) with
        | true =>
          have HF : Hid (First bs n (k + 1)) := ⟨by omega, by omega, HA.out, fun _ => hp⟩
          rw [hp] at q1
          clear hc
          go_wp2
          go_meet
          case rel => exact ⟨k + 1, by go_num, HF, rfl⟩
        | false =>
          have HN : Hid (∀ j, 1 ≤ j → j < k + 1 + 1 → at1 bs j = false) := fun j h1 h2 => by
            by_cases e : j = k + 1
            · rw [e]; exact hp
            · exact HA.out j h1 (by omega)
          rw [hp] at q1
          clear hc hp
          go_wp2
          go_round
          case rel => exact ⟨k + 1, by omega, by go_num, rfl, HN⟩
          case measure => simp [intOf]; omega
      · have HF : Hid (First bs n (n + 1)) := ⟨by omega, by omega, fun j h1 h2 => HA.out j h1 (by omega), fun h => absurd h (by omega)⟩
        go_wp2
        go_meet
        case rel => exact ⟨n + 1, rfl, HF, rfl⟩
  case rest =>
  obtain ⟨t, rfl, HF, hsame⟩ := hcut
  have hs' : wc = w1 := hsame
  subst wc
  have ht1 := HF.out.lo
  have ht2 := HF.out.hi
  go_wp2_with fail
  go_loop [9] (fun i => ∃ k : Nat, t ≤ k ∧ k ≤ n + 1 ∧ i = .int .i64 k ∧ Hid (∀ j, t < j → j < k + 1 → at1 bs j = true)) (fun i => n + 1 - (intOf i).toNat)
  case atStart => exact ⟨t, Nat.le_refl _, ht2, rfl, fun j h1 h2 => by omega⟩
  case round =>
  obtain ⟨k, hk, hk2, rfl, HA⟩ := hrel
  by_cases hlt : k < n
  · obtain ⟨g, o, e, hc⟩ := HB.out.at' (by omega)
    subst e
    have q1 := hc k _ (at1_get (bs := bs) (i := k + 1) (by omega) (by rw [HB.out.len]; omega))
    cases hp : at1 bs (k + 1) with
    | false =>
      rw [hp] at q1
      clear hc
      go_wp2
      go_ret
      exact ⟨rfl, HBl.out⟩
    | true =>
      have HN : Hid (∀ j, t < j → j < k + 1 + 1 → at1 bs j = true) := fun j h1 h2 => by
        by_cases e : j = k + 1
        · rw [e]; exact hp
        · exact HA.out j h1 (by omega)
      rw [hp] at q1
      clear hc hp
      go_wp2
      go_round
      case rel => exact ⟨k + 1, by omega, by omega, by go_num, HN⟩
      case measure => simp [intOf]; omega
  have HM : Hid (∀ j, t < j → j ≤ n → at1 bs j = true) := fun j h1 h2 => HA.out j h1 (by omega)
  have H6 := zz_any nm ao' n c' bs w1 HB.out hn
  rw [HLO.out] at H6
  clear HA
  by_cases hnt : t < nm
  · go_wp2_with fail
    refine H6.mono ?_
    rintro e w2 ⟨⟨r, rfl, hg⟩, hb2⟩
    have hr := first_gt HM.out hg hnt
    subst hr
    clear hg
    go_wp2
    go_ret
    exact ⟨rfl, HBl.out.trans (hb2.mono HBl.out.size)⟩
  · go_wp2_with fail
    refine H6.mono ?_
    rintro e w2 ⟨⟨r, rfl, hg⟩, hb2⟩
    have hr := first_le HF.out HM.out hg (by omega) h1
    subst hr
    clear hg
    go_wp2
    go_ret
    exact ⟨rfl, HBl.out.trans (hb2.mono HBl.out.size)⟩

set_option maxRecDepth 100000 in
set_option maxHeartbeats 2000000 in
theorem find_low (ao : Option Addr) (n c : Nat) (nm : Int) (bs : List Bool) (w : World) (h : BW w ao n bs) (hn : n ≤ 65536) (h1 : nm < 1) :
    Calls Try.prog 3 #[.int .i64 nm, .slice ao n c] w fun e w' => e = .returned (.bool true) ∧ Below w.heap.size w w' := by
  have H7 := bytes5 nm ao n c w h.small
  have H : Hid (BW w ao n bs) := h
  have HLO : Hid (lowerOf nm n = 1) := by show lowerOf nm n = 1; unfold lowerOf; rw [if_neg (by omega)]
  clear h
  go_enter Try.func3, Try.ntmps3
  go_wp2_with fail
  refine H7.mono ?_
  rintro e w' ⟨⟨b, rfl⟩, hw⟩
  subst w'
  clear H7
  cases b
  · go_wp2
    go_ret
    exact ⟨rfl, Below.refl _ _⟩
  go_upto_if 19 with (fail)
  go_cut [1] from 11 (fun s1 wc => ∃ ao c, s1 = .slice ao n c ∧ Hid (BW wc ao n bs) ∧ Hid (Below w.heap.size w wc))
  case first =>
    cases ao with
    | none =>
      have hnil := fun w => run_neq_slice_nil_any (P := Try.prog) w 22 4 none n c 0 0 Try.underlying22
      go_wp2
      go_meet
      case rel => exact ⟨_, _, rfl, H, Below.refl _ _⟩
    | some a =>
      have hnil := fun w => run_neq_slice_nil_any (P := Try.prog) w 22 4 (some a) n c 0 0 Try.underlying22
      have hmk := make_bools n (by omega)
      obtain ⟨W, hcp, hW, hbW⟩ := H.out.copied c
      have HW : Hid (BW W (some ⟨w.heap.size, 0, none⟩) n bs) := hW
      clear hW
      go_wp2
      go_meet
      case rel => exact ⟨_, _, rfl, HW, hbW⟩
  case rest =>
  obtain ⟨ao', c', rfl, HB, HBl⟩ := hcut
  obtain ⟨w1, hw1⟩ : ∃ w1, w1 = wc := ⟨_, rfl⟩
  subst wc
  clear H
  go_upto_block 0 with (fail)
  go_cut [7, 8] from 11 (fun s7 _ wc => ∃ t : Nat, s7 = .int .i64 t ∧ Hid (First bs n t) ∧ IsSame w1 wc)
  case first =>
    go_wp2_with fail
    go_loop [7, 8] (fun s7 i => ∃ k : Nat, k ≤ n ∧ i = .int .i64 k ∧ s7 = .int .i64 (n + 1 : Nat) ∧ Hid (∀ j, 1 ≤ j → j < k + 1 → at1 bs j = false)) (fun _ i => n - (intOf i).toNat)
    case atStart => exact ⟨0, Nat.zero_le _, rfl, by go_num, fun j h1 h2 => by omega⟩
    case round =>
      obtain ⟨k, hk, rfl, rfl, HA⟩ := hrel
      by_cases hlt : k < n
      · obtain ⟨g, o, e, hc⟩ := HB.out.at' (by omega)
        subst e
        have q1 := hc k _ (at1_get (bs := bs) (i := k + 1) (by omega) (by rw [HB.out.len]; omega))
        cases hp : at1 bs (k + 1) with
        | true =>
          have HF : Hid (First bs n (k + 1)) := ⟨by omega, by omega, HA.out, fun _ => hp⟩
          rw [hp] at q1
          clear hc
          go_wp2
          go_meet
          case rel => exact ⟨k + 1, by go_num, HF, rfl⟩
        | false =>
          have HN : Hid (∀ j, 1 ≤ j → j < k + 1 + 1 → at1 bs j = false) := fun j h1 h2 => by
            by_cases e : j = k + 1
            · rw [e]; exact hp
            · exact HA.out j h1 (by omega)
          rw [hp] at q1
          clear hc hp
          go_wp2
          go_round
          case rel => exact ⟨k + 1, by omega, by go_num, rfl, HN⟩
          case measure => simp [intOf]; omega
      · have HF : Hid (First bs n (n + 1)) := ⟨by omega, by omega, fun j h1 h2 => HA.out j h1 (by omega), fun h => absurd h (by omega)⟩
        go_wp2
        go_meet
        case rel => exact ⟨n + 1, rfl, HF, rfl⟩
  case rest =>
  obtain ⟨t, rfl, HF, hsame⟩ := hcut
  have hs' : wc = w1 := hsame
  subst wc
  have ht1 := HF.out.lo
  have ht2 := HF.out.hi
  go_wp2_with fail
  go_loop [9] (fun i => ∃ k : Nat, t ≤ k ∧ k ≤ n + 1 ∧ i = .int .i64 k ∧ Hid (∀ j, t < j → j < k + 1 → at1 bs j = true)) (fun i => n + 1 - (intOf i).toNat)
  case atStart => exact ⟨t, Nat.le_refl _, ht2, rfl, fun j h1 h2 => by omega⟩
  case round =>
  obtain ⟨k, hk, hk2, rfl, HA⟩ := hrel
  by_cases hlt : k < n
  · obtain ⟨g, o, e, hc⟩ := HB.out.at' (by omega)
    subst e
    have q1 := hc k _ (at1_get (bs := bs) (i := k + 1) (by omega) (by rw [HB.out.len]; omega))
    cases hp : at1 bs (k + 1) with
    | false =>
      rw [hp] at q1
      clear hc
      go_wp2
      go_ret
      exact ⟨rfl, HBl.out⟩
    | true =>
      have HN : Hid (∀ j, t < j → j < k + 1 + 1 → at1 bs j = true) := fun j h1 h2 => by
        by_cases e : j = k + 1
        · rw [e]; exact hp
        · exact HA.out j h1 (by omega)
      rw [hp] at q1
      clear hc hp
      go_wp2
      go_round
      case rel => exact ⟨k + 1, by omega, by omega, by go_num, HN⟩
      case measure => simp [intOf]; omega
  have HM : Hid (∀ j, t < j → j ≤ n → at1 bs j = true) := fun j h1 h2 => HA.out j h1 (by omega)
  have H6 := zz_any nm ao' n c' bs w1 HB.out hn
  rw [HLO.out] at H6
  clear HA
  go_wp2_with fail
  refine H6.mono ?_
  rintro e w2 ⟨⟨r, rfl, hg⟩, hb2⟩
  have hr := first_le HF.out HM.out hg ht1 (Nat.le_refl _)
  subst hr
  clear hg
  go_wp2
  go_ret
  exact ⟨rfl, HBl.out.trans (hb2.mono HBl.out.size)⟩

set_option maxRecDepth 100000 in
set_option maxHeartbeats 2000000 in
theorem find_high (ao : Option Addr) (n c : Nat) (nm : Int) (bs : List Bool) (w : World) (h : BW w ao n bs) (hn : n ≤ 65536) (h1 : (n : Int) < nm) :
    Calls Try.prog 3 #[.int .i64 nm, .slice ao n c] w fun e w' => e = .returned (.bool true) ∧ Below w.heap.size w w' := by
  have H7 := bytes5 nm ao n c w h.small
  have H : Hid (BW w ao n bs) := h
  have HLO : Hid (lowerOf nm n = 1) := by show lowerOf nm n = 1; unfold lowerOf; rw [if_neg (by omega)]
  clear h
  go_enter Try.func3, Try.ntmps3
  go_wp2_with fail
  refine H7.mono ?_
  rintro e w' ⟨⟨b, rfl⟩, hw⟩
  subst w'
  clear H7
  cases b
  · go_wp2
    go_ret
    exact ⟨rfl, Below.refl _ _⟩
  go_upto_if 19 with (fail)
  go_cut [1] from 11 (fun s1 wc => ∃ ao c, s1 = .slice ao n c ∧ Hid (BW wc ao n bs) ∧ Hid (Below w.heap.size w wc))
  case first =>
    cases ao with
    | none =>
      have hnil := fun w => run_neq_slice_nil_any (P := Try.prog) w 22 4 none n c 0 0 Try.underlying22
      go_wp2
      go_meet
      case rel => exact ⟨_, _, rfl, H, Below.refl _ _⟩
    | some a =>
      have hnil := fun w => run_neq_slice_nil_any (P := Try.prog) w 22 4 (some a) n c 0 0 Try.underlying22
      have hmk := make_bools n (by omega)
      obtain ⟨W, hcp, hW, hbW⟩ := H.out.copied c
      have HW : Hid (BW W (some ⟨w.heap.size, 0, none⟩) n bs) := hW
      clear hW
      go_wp2
      go_meet
      case rel => exact ⟨_, _, rfl, HW, hbW⟩
  case rest =>
  obtain ⟨ao', c', rfl, HB, HBl⟩ := hcut
  obtain ⟨w1, hw1⟩ : ∃ w1, w1 = wc := ⟨_, rfl⟩
  subst wc
  clear H
  go_upto_block 0 with (fail)
  go_cut [7, 8] from 11 (fun s7 _ wc => ∃ t : Nat, s7 = .int .i64 t ∧ Hid (First bs n t) ∧ IsSame w1 wc)
  case first =>
    go_wp2_with fail
    go_loop [7, 8] (fun s7 i => ∃ k : Nat, k ≤ n ∧ i = .int .i64 k ∧ s7 = .int .i64 (n + 1 : Nat) ∧ Hid (∀ j, 1 ≤ j → j < k + 1 → at1 bs j = false)) (fun _ i => n - (intOf i).toNat)
    case atStart => exact ⟨0, Nat.zero_le _, rfl, by go_num, fun j h1 h2 => by omega⟩
    case round =>
      obtain ⟨k, hk, rfl, rfl, HA⟩ := hrel
      by_cases hlt : k < n
      · obtain ⟨g, o, e, hc⟩ := HB.out.at' (by omega)
        subst e
        have q1 := hc k _ (at1_get (bs := bs) (i := k + 1) (by omega) (by rw [HB.out.len]; omega))
        cases hp : at1 bs (k + 1) with
        | true =>
          have HF : Hid (First bs n (k + 1)) := ⟨by omega, by omega, HA.out, fun _ => hp⟩
          rw [hp] at q1
          clear hc
          go_wp2
          go_meet
          case rel => exact ⟨k + 1, by go_num, HF, rfl⟩
        | false =>
          have HN : Hid (∀ j, 1 ≤ j → j < k + 1 + 1 → at1 bs j = false) := fun j h1 h2 => by
            by_cases e : j = k + 1
            · rw [e]; exact hp
            · exact HA.out j h1 (by omega)
          rw [hp] at q1
          clear hc hp
          go_wp2
          go_round
          case rel => exact ⟨k + 1, by omega, by go_num, rfl, HN⟩
          case measure => simp [intOf]; omega
      · have HF : Hid (First bs n (n + 1)) := ⟨by omega, by omega, fun j h1 h2 => HA.out j h1 (by omega), fun h => absurd h (by omega)⟩
        go_wp2
        go_meet
        case rel => exact ⟨n + 1, rfl, HF, rfl⟩
  case rest =>
  obtain ⟨t, rfl, HF, hsame⟩ := hcut
  have hs' : wc = w1 := hsame
  subst wc
  have ht1 := HF.out.lo
  have ht2 := HF.out.hi
  go_wp2_with fail
  go_loop [9] (fun i => ∃ k : Nat, t ≤ k ∧ k ≤ n + 1 ∧ i = .int .i64 k ∧ Hid (∀ j, t < j → j < k + 1 → at1 bs j = true)) (fun i => n + 1 - (intOf i).toNat)
  case atStart => exact ⟨t, Nat.le_refl _, ht2, rfl, fun j h1 h2 => by omega⟩
  case round =>
  obtain ⟨k, hk, hk2, rfl, HA⟩ := hrel
  by_cases hlt : k < n
  · obtain ⟨g, o, e, hc⟩ := HB.out.at' (by omega)
    subst e
    have q1 := hc k _ (at1_get (bs := bs) (i := k + 1) (by omega) (by rw [HB.out.len]; omega))
    cases hp : at1 bs (k + 1) with
    | false =>
      rw [hp] at q1
      clear hc
      go_wp2
      go_ret
      exact ⟨rfl, HBl.out⟩
    | true =>
      have HN : Hid (∀ j, t < j → j < k + 1 + 1 → at1 bs j = true) := fun j h1 h2 => by
        by_cases e : j = k + 1
        · rw [e]; exact hp
        · exact HA.out j h1 (by omega)
      rw [hp] at q1
      clear hc hp
      go_wp2
      go_round
      case rel => exact ⟨k + 1, by omega, by omega, by go_num, HN⟩
      case measure => simp [intOf]; omega
  have HM : Hid (∀ j, t < j → j ≤ n → at1 bs j = true) := fun j h1 h2 => HA.out j h1 (by omega)
  have H6 := zz_any nm ao' n c' bs w1 HB.out hn
  rw [HLO.out] at H6
  clear HA
  go_wp2_with fail
  refine H6.mono ?_
  rintro e w2 ⟨⟨r, rfl, hg⟩, hb2⟩
  have hr := first_le HF.out HM.out hg ht1 (Nat.le_refl _)
  subst hr
  clear hg
  go_wp2
  go_ret
  exact ⟨rfl, HBl.out.trans (hb2.mono HBl.out.size)⟩

end Go.Proofs.Qxb6616845a

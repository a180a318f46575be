import Derived.Test.Qxb6617024aFmtTf
import Derived.OwnWalk
namespace Go.Proofs.Qxb6617024aFmt
open Go.RowKit Go.Extern.Stop Go.Stop Go.Extern

set_option maxHeartbeats 800000 in
theorem zzle32_nat (n c k : Nat) (ao : Option Addr) (zs : List Int) (w : World) (h : Bytes w ao n zs) (h1 : k + 4 ≤ n) :
    Calls Tryf.prog 23 #[.slice ao n c, .int .i64 k] w fun e w' => e = .returned (.int .u32 (le32 zs k)) ∧ Below w.heap.size w w' := by
  obtain ⟨g, o, rfl, hr⟩ := h.row (by omega)
  have hs := h.small
  have hl := h.len
  have q0 := cell_regrown (byte_cell hr k _ k (by omega) rfl (by omega))
  have q1 := cell_regrown (byte_cell hr (k + 1) _ (k + 1) (by omega) rfl (by omega))
  have q2 := cell_regrown (byte_cell hr (k + 2) _ (k + 2) (by omega) rfl (by omega))
  have q3 := cell_regrown (byte_cell hr (k + 3) _ (k + 3) (by omega) rfl (by omega))
  obtain ⟨l1, l2⟩ := at8_wf h.wf k
  obtain ⟨l3, l4⟩ := at8_wf h.wf (k + 1)
  obtain ⟨l5, l6⟩ := at8_wf h.wf (k + 2)
  obtain ⟨l7, l8⟩ := at8_wf h.wf (k + 3)
  have hd : le32 zs k = at8 zs k + at8 zs (k + 1) * 256 + at8 zs (k + 2) * 65536 + at8 zs (k + 3) * 16777216 := by unfold le32; omega
  rw [hd]
  generalize at8 zs k = x0 at *
  generalize at8 zs (k + 1) = x1 at *
  generalize at8 zs (k + 2) = x2 at *
  generalize at8 zs (k + 3) = x3 at *
  clear h hr hl hd
  go_enter Tryf.func23, Tryf.ntmps23
  go_wp2_with fail
  refine wp_region_quiet_below (by kernel_rfl) (by kernel_rfl) ?_
  repeat (go_big_quiet_step (fail))
  refine wpQuiet_nil ?_
  intro _ hw'
  obtain ⟨⟨dq, osq⟩, hw''⟩ := hw'
  subst hw''
  go_wp2
  go_ret
  exact ⟨rfl, below_regrown w dq osq⟩

theorem zzle32_walk (n c : Nat) (p : Int) (ao : Option Addr) (zs : List Int) (w : World) (h : Bytes w ao n zs) (h0 : 0 ≤ p) (h1 : p + 4 ≤ n) :
    Calls Tryf.prog 23 #[.slice ao n c, .int .i64 p] w fun e w' => e = .returned (.int .u32 (le32 zs p)) ∧ Below w.heap.size w w' := by
  obtain ⟨k, rfl⟩ := Int.eq_ofNat_of_zero_le h0
  exact zzle32_nat n c k ao zs w h (by omega)
theorem zzle16_walk (n c : Nat) (p : Int) (ao : Option Addr) (zs : List Int) (w : World) (h : Bytes w ao n zs) (h0 : 0 ≤ p) (h1 : p + 2 ≤ n) :
    Calls Tryf.prog 24 #[.slice ao n c, .int .i64 p] w fun e w' => e = .returned (.int .i64 (le16 zs p)) ∧ Below w.heap.size w w' := by
  obtain ⟨k, rfl⟩ := Int.eq_ofNat_of_zero_le h0
  exact zzle16_nat n c k ao zs w h (by omega)

/-- How far back the table's first word points. -/
def back (zs : List Int) (pos : Int) : Int := if 2147483648 ≤ le32 zs pos then le32 zs pos - 4294967296 else le32 zs pos
/-- The two sizes that the vtable gives fit. -/
def sound (zs : List Int) (pos vt : Int) : Prop :=
  0 ≤ vt ∧ vt ≤ zs.length - 4 ∧ 4 ≤ le16 zs vt ∧ le16 zs vt % 2 = 0 ∧ 4 ≤ le16 zs (vt + 2) ∧ le16 zs vt ≤ zs.length - vt ∧ le16 zs (vt + 2) ≤ zs.length - pos
/-- The table at pos is sound. -/
def good (zs : List Int) (pos : Int) : Prop := 0 ≤ pos ∧ pos ≤ zs.length - 4 ∧ sound zs pos (pos - back zs pos)
def vtab (zs : List Int) (pos : Int) : Int := pos - back zs pos
def slots (zs : List Int) (pos : Int) : Int := (le16 zs (vtab zs pos) - 4) / 2

set_option maxHeartbeats 800000 in
theorem layout_far (n c : Nat) (p : Int) (ao : Option Addr) (w : World) (hs : n ≤ 1048576) (h : ¬ (0 ≤ p ∧ p ≤ (n : Int) - 4)) :
    Calls Tryf.prog 12 #[.slice ao n c, .int .i64 p] w fun e w' => e = .returned (.tuple #[.bool false, .int .i64 0, .int .i64 0]) ∧ Below w.heap.size w w' := by
  by_cases h0 : p < 0
  · clear h
    go_enter Tryf.func12, Tryf.ntmps12
    go_wp2
    go_ret3
    exact ⟨rfl, Below.refl _ _⟩
  · by_cases h1 : n < 4
    · clear h
      go_enter Tryf.func12, Tryf.ntmps12
      go_wp2
      go_ret3
      exact ⟨rfl, Below.refl _ _⟩
    · have h2 : (n : Int) - 4 < p := by omega
      clear h
      go_enter Tryf.func12, Tryf.ntmps12
      go_wp2
      go_ret3
      exact ⟨rfl, Below.refl _ _⟩

set_option maxHeartbeats 1600000 in
theorem layout_vt (n c : Nat) (p : Int) (ao : Option Addr) (zs : List Int) (w : World) (h : Bytes w ao n zs) (h0 : 0 ≤ p) (h1 : p ≤ (n : Int) - 4) (hv : ¬ (0 ≤ vtab zs p ∧ vtab zs p ≤ (n : Int) - 4)) :
    Calls Tryf.prog 12 #[.slice ao n c, .int .i64 p] w fun e w' => e = .returned (.tuple #[.bool false, .int .i64 0, .int .i64 0]) ∧ Below w.heap.size w w' := by
  have hs := h.small
  have h4 : ¬ n < 4 := by omega
  obtain ⟨l1, l2⟩ := le32_wf h.wf p
  have C1 := zzle32_walk n c p ao zs w h h0 (by omega)
  by_cases hx : 2147483648 ≤ le32 zs p
  · have e1 : vtab zs p = p - (le32 zs p - 4294967296) := by simp [vtab, back, hx]
    have hv2 : ¬ p - (le32 zs p - 4294967296) < 0 := by omega
    have hv3 : (n : Int) - 4 < p - (le32 zs p - 4294967296) := by omega
    clear hv e1 h
    generalize le32 zs p = b at *
    go_enter Tryf.func12, Tryf.ntmps12
    go_wp2_with fail
    refine C1.mono ?_
    rintro e w1 ⟨rfl, hb1⟩
    have HB : Hid (Below w.heap.size w w1) := hb1
    clear hb1 C1
    go_wp2
    go_ret3
    exact ⟨rfl, HB.out⟩
  · have e1 : vtab zs p = p - le32 zs p := by simp [vtab, back, hx]
    have hv2 : p - le32 zs p < 0 := by omega
    clear hv e1 h
    generalize le32 zs p = b at *
    go_enter Tryf.func12, Tryf.ntmps12
    go_wp2_with fail
    refine C1.mono ?_
    rintro e w1 ⟨rfl, hb1⟩
    have HB : Hid (Below w.heap.size w w1) := hb1
    clear hb1 C1
    go_wp2
    go_ret3
    exact ⟨rfl, HB.out⟩
end Go.Proofs.Qxb6617024aFmt

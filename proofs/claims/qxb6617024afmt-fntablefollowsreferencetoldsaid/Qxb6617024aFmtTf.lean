import Derived.Test.Qxb6617024aFmtTe
namespace Go.Proofs.Qxb6617024aFmt
open Go.RowKit Go.Extern.Stop Go.Stop Go.Extern

set_option maxHeartbeats 800000 in
theorem u16_nat (bb n c k : Nat) (ao : Option Addr) (zs : List Int) (w : World) (h : Buf w bb ao n c zs) (h1 : k + 2 ≤ n) :
    Calls Tryf.prog 30 #[.pointer (some ⟨bb, 0, none⟩), .int .i64 k] w fun e w' => e = .returned (.int .i64 (le16 zs k)) ∧ Below w.heap.size w w' := by
  obtain ⟨g, o, rfl, _, hr⟩ := h.row (by omega)
  have hb := cell_regrown h.b
  have hs := h.small
  have hcap := h.cap
  have hl := h.len
  obtain ⟨l1, l2⟩ := le16_wf h.wf k
  have cQ : ∀ d os, Calls Tryf.prog 33 #[.agg #[], .slice (some ⟨g, o + k, none⟩) (n - k) (c - k)] (Sort.grow (redrawn w d) os) fun e w'' => e = .returned (.int .u16 (le16 zs k)) ∧ ∃ p : Regrown, w'' = Sort.grow (redrawn w p.d) p.os :=
    fun d os => Calls.regrown_of (read16 g (o + k) (n - k) (c - k) _ _ (Sort.grow (redrawn w d) os) (by omega)
      (cell_regrown (byte_cell hr k _ k (by omega) (by omega) (by omega)) d os) (cell_regrown (byte_cell hr (k + 1) _ (k + 1) (by omega) (by omega) (by omega)) d os)
      (at8_wf h.wf _) (at8_wf h.wf _))
  clear h hr hl
  go_enter Tryf.func30, Tryf.ntmps30
  go_wp2_with fail
  refine wp_region_quiet_below (by kernel_rfl) (by kernel_rfl) ?_
  repeat (first | go_big_quiet_step (exact cQ _ _) | quiet_step (exact cQ _ _))
  refine wpQuiet_nil ?_
  intro _ hw'
  obtain ⟨⟨dq, osq⟩, hw''⟩ := hw'
  subst hw''
  go_wp2
  go_ret
  exact ⟨rfl, below_regrown w dq osq⟩

theorem u32_walk (bb n c : Nat) (p : Int) (ao : Option Addr) (zs : List Int) (w : World) (h : Buf w bb ao n c zs) (h0 : 0 ≤ p) (h1 : p + 4 ≤ n) :
    Calls Tryf.prog 28 #[.pointer (some ⟨bb, 0, none⟩), .int .i64 p] w fun e w' => e = .returned (.int .u32 (le32 zs p)) ∧ Below w.heap.size w w' := by
  obtain ⟨k, rfl⟩ := Int.eq_ofNat_of_zero_le h0
  exact u32_nat bb n c k ao zs w h (by omega)
theorem u16_walk (bb n c : Nat) (p : Int) (ao : Option Addr) (zs : List Int) (w : World) (h : Buf w bb ao n c zs) (h0 : 0 ≤ p) (h1 : p + 2 ≤ n) :
    Calls Tryf.prog 30 #[.pointer (some ⟨bb, 0, none⟩), .int .i64 p] w fun e w' => e = .returned (.int .i64 (le16 zs p)) ∧ Below w.heap.size w w' := by
  obtain ⟨k, rfl⟩ := Int.eq_ofNat_of_zero_le h0
  exact u16_nat bb n c k ao zs w h (by omega)

/-- A slice of bytes that came in. -/
structure Bytes (w : World) (ao : Option Addr) (n : Nat) (zs : List Int) : Prop where
  len : zs.length = n
  small : n ≤ 1048576
  row : 0 < n → ∃ g o, ao = some ⟨g, o, none⟩ ∧ ∀ (j : Nat) z, zs[j]? = some z → w.cell? ⟨g, o + j, none⟩ = some (.int .u8 z)
  wf : ∀ z ∈ zs, 0 ≤ z ∧ z ≤ 255
theorem Bytes.below {w w' : World} {ao : Option Addr} {n : Nat} {zs : List Int} (h : Bytes w ao n zs) (hb : Below w.heap.size w w') : Bytes w' ao n zs := by
  obtain ⟨h1, h2, h3, h4⟩ := h
  refine ⟨h1, h2, fun hn => ?_, h4⟩
  obtain ⟨g, o, e, hr⟩ := h3 hn
  exact ⟨g, o, e, fun j z hj => cell_below hb (hr j z hj)⟩

set_option maxHeartbeats 800000 in
theorem zzle16_nat (n c k : Nat) (ao : Option Addr) (zs : List Int) (w : World) (h : Bytes w ao n zs) (h1 : k + 2 ≤ n) :
    Calls Tryf.prog 24 #[.slice ao n c, .int .i64 k] w fun e w' => e = .returned (.int .i64 (le16 zs k)) ∧ Below w.heap.size w w' := by
  obtain ⟨g, o, rfl, hr⟩ := h.row (by omega)
  have hs := h.small
  have hl := h.len
  have q0 := cell_regrown (byte_cell hr k _ k (by omega) rfl (by omega))
  have q1 := cell_regrown (byte_cell hr (k + 1) _ (k + 1) (by omega) rfl (by omega))
  obtain ⟨l1, l2⟩ := at8_wf h.wf k
  obtain ⟨l3, l4⟩ := at8_wf h.wf (k + 1)
  have hd : le16 zs k = at8 zs k + 256 * at8 zs (k + 1) := rfl
  rw [hd]
  generalize at8 zs k = x0 at *
  generalize at8 zs (k + 1) = x1 at *
  clear h hr hl hd
  go_enter Tryf.func24, Tryf.ntmps24
  go_wp2_with fail
  refine wp_region_quiet_below (by kernel_rfl) (by kernel_rfl) ?_
  repeat (go_big_quiet_step (fail))
  refine wpQuiet_nil ?_
  intro _ hw'
  obtain ⟨⟨dq, osq⟩, hw''⟩ := hw'
  subst hw''
  go_wp2
  go_ret
  exact ⟨rfl, below_regrown w dq osq⟩
end Go.Proofs.Qxb6617024aFmt

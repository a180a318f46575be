import Derived.Test.Qxb6617024aFmtTd
import Derived.Test.Qxb6617024aFmtShelf
import Derived.Lib.QuietBelow
import Derived.BigQuiet
namespace Go.Proofs.Qxb6617024aFmt
open Go.RowKit Go.Extern.Stop Go.Stop Go.Extern

/-- The byte at a place. -/
def at8 (zs : List Int) (p : Int) : Int := zs.getD p.toNat 0
def le16 (zs : List Int) (p : Int) : Int := at8 zs p + 256 * at8 zs (p + 1)
def le32 (zs : List Int) (p : Int) : Int := at8 zs p + 256 * at8 zs (p + 1) + 65536 * at8 zs (p + 2) + 16777216 * at8 zs (p + 3)

theorem at8_wf {zs : List Int} (h : ∀ z ∈ zs, 0 ≤ z ∧ z ≤ 255) (p : Int) : 0 ≤ at8 zs p ∧ at8 zs p ≤ 255 := by
  unfold at8
  rw [List.getD_eq_getElem?_getD]
  cases e : zs[p.toNat]? with
  | none => simp
  | some z => exact h z (List.mem_of_getElem? e)
theorem le16_wf {zs : List Int} (h : ∀ z ∈ zs, 0 ≤ z ∧ z ≤ 255) (p : Int) : 0 ≤ le16 zs p ∧ le16 zs p ≤ 65535 := by
  have h1 := at8_wf h p
  have h2 := at8_wf h (p + 1)
  unfold le16
  omega
theorem le32_wf {zs : List Int} (h : ∀ z ∈ zs, 0 ≤ z ∧ z ≤ 255) (p : Int) : 0 ≤ le32 zs p ∧ le32 zs p ≤ 4294967295 := by
  have h1 := at8_wf h p
  have h2 := at8_wf h (p + 1)
  have h3 := at8_wf h (p + 2)
  have h4 := at8_wf h (p + 3)
  unfold le32
  omega

theorem byte_cell {zs : List Int} {w : World} {g o : Nat} (hr : ∀ (j : Nat) z, zs[j]? = some z → w.cell? ⟨g, o + j, none⟩ = some (.int .u8 z)) (j q : Nat) (p : Int) (hp : p = (j : Int)) (hq : q = o + j) (hj : j < zs.length) :
    w.cell? ⟨g, q, none⟩ = some (.int .u8 (at8 zs p)) := by
  subst hp hq
  have e : zs[j]? = some (at8 zs j) := by
    unfold at8
    rw [List.getD_eq_getElem?_getD, Int.toNat_natCast, List.getElem?_eq_getElem hj]
    rfl
  exact hr j _ e

theorem read32 (g o n c : Nat) (z0 z1 z2 z3 : Int) (w : World) (hn : 4 ≤ n) (c0 : w.cell? ⟨g, o, none⟩ = some (.int .u8 z0)) (c1 : w.cell? ⟨g, o + 1, none⟩ = some (.int .u8 z1)) (c2 : w.cell? ⟨g, o + 2, none⟩ = some (.int .u8 z2)) (c3 : w.cell? ⟨g, o + 3, none⟩ = some (.int .u8 z3))
    (h0 : 0 ≤ z0 ∧ z0 ≤ 255) (h1 : 0 ≤ z1 ∧ z1 ≤ 255) (h2 : 0 ≤ z2 ∧ z2 ≤ 255) (h3 : 0 ≤ z3 ∧ z3 ≤ 255) :
    Calls Tryf.prog 31 #[.agg #[], .slice (some ⟨g, o, none⟩) n c] w fun e w' => e = .returned (.int .u32 (z0 + 256 * z1 + 65536 * z2 + 16777216 * z3)) ∧ Below w.heap.size w w' := by
  have hx : ∀ z ∈ [z0, z1, z2, z3], 0 ≤ z ∧ z ≤ 255 := by
    intro z hz
    simp only [List.mem_cons, List.not_mem_nil, or_false] at hz
    rcases hz with rfl | rfl | rfl | rfl <;> assumption
  have e := Lib.leNat_byteOf _ hx
  simp only [List.map_cons, List.map_nil] at e
  have := Tryf.binary_LE_Uint32 g o n c (Lib.byteOf z0) (Lib.byteOf z1) (Lib.byteOf z2) (Lib.byteOf z3) w hn (by rw [Lib.byteOf_toNat h0]; exact c0) (by rw [Lib.byteOf_toNat h1]; exact c1) (by rw [Lib.byteOf_toNat h2]; exact c2) (by rw [Lib.byteOf_toNat h3]; exact c3)
  rw [e] at this
  rw [show z0 + 256 * z1 + 65536 * z2 + 16777216 * z3 = Lib.leZ [z0, z1, z2, z3] from by simp only [Lib.leZ]; omega]
  exact this
theorem read16 (g o n c : Nat) (z0 z1 : Int) (w : World) (hn : 2 ≤ n) (c0 : w.cell? ⟨g, o, none⟩ = some (.int .u8 z0)) (c1 : w.cell? ⟨g, o + 1, none⟩ = some (.int .u8 z1)) 
    (h0 : 0 ≤ z0 ∧ z0 ≤ 255) (h1 : 0 ≤ z1 ∧ z1 ≤ 255) :
    Calls Tryf.prog 33 #[.agg #[], .slice (some ⟨g, o, none⟩) n c] w fun e w' => e = .returned (.int .u16 (z0 + 256 * z1)) ∧ Below w.heap.size w w' := by
  have hx : ∀ z ∈ [z0, z1], 0 ≤ z ∧ z ≤ 255 := by
    intro z hz
    simp only [List.mem_cons, List.not_mem_nil, or_false] at hz
    rcases hz with rfl | rfl <;> assumption
  have e := Lib.leNat_byteOf _ hx
  simp only [List.map_cons, List.map_nil] at e
  have := Tryf.binary_LE_Uint16 g o n c (Lib.byteOf z0) (Lib.byteOf z1) w hn (by rw [Lib.byteOf_toNat h0]; exact c0) (by rw [Lib.byteOf_toNat h1]; exact c1)
  rw [e] at this
  rw [show z0 + 256 * z1 = Lib.leZ [z0, z1] from by simp only [Lib.leZ]; omega]
  exact this

set_option maxHeartbeats 800000 in
theorem u32_nat (bb n c k : Nat) (ao : Option Addr) (zs : List Int) (w : World) (h : Buf w bb ao n c zs) (h1 : k + 4 ≤ n) :
    Calls Tryf.prog 28 #[.pointer (some ⟨bb, 0, none⟩), .int .i64 k] w fun e w' => e = .returned (.int .u32 (le32 zs k)) ∧ Below w.heap.size w w' := by
  obtain ⟨g, o, rfl, _, hr⟩ := h.row (by omega)
  have hb := cell_regrown h.b
  have hs := h.small
  have hcap := h.cap
  have hl := h.len
  have cQ : ∀ d os, Calls Tryf.prog 31 #[.agg #[], .slice (some ⟨g, o + k, none⟩) (n - k) (c - k)] (Sort.grow (redrawn w d) os) fun e w'' => e = .returned (.int .u32 (le32 zs k)) ∧ ∃ p : Regrown, w'' = Sort.grow (redrawn w p.d) p.os := 
    fun d os => Calls.regrown_of (read32 g (o + k) (n - k) (c - k) _ _ _ _ (Sort.grow (redrawn w d) os) (by omega) 
      (cell_regrown (byte_cell hr k _ k (by omega) (by omega) (by omega)) d os) (cell_regrown (byte_cell hr (k + 1) _ (k + 1) (by omega) (by omega) (by omega)) d os) (cell_regrown (byte_cell hr (k + 2) _ (k + 2) (by omega) (by omega) (by omega)) d os) (cell_regrown (byte_cell hr (k + 3) _ (k + 3) (by omega) (by omega) (by omega)) d os)
      (at8_wf h.wf _) (at8_wf h.wf _) (at8_wf h.wf _) (at8_wf h.wf _))
  clear h hr hl
  go_enter Tryf.func28, Tryf.ntmps28
  go_wp2_with fail
  refine wp_region_quiet_below (by kernel_rfl) (by kernel_rfl) ?_
  repeat (first | go_big_quiet_step (exact cQ _ _) | quiet_step (exact cQ _ _))
  refine wpQuiet_nil ?_
  intro _ hw'
  obtain ⟨⟨dq, osq⟩, hw''⟩ := hw'
  subst hw''
  go_wp2
  go_ret
  exact ⟨rfl, below_regrown w dq osq⟩
end Go.Proofs.Qxb6617024aFmt

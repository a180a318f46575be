import Derived.Test.Qxb6617024aFmtTc
namespace Go.Proofs.Qxb6617024aFmt
open Go.RowKit Go.Extern.Stop Go.Stop Go.Extern

/-- A buffer in block bb over the bytes zs. -/
structure Buf (w : World) (bb : Nat) (ao : Option Addr) (n c : Nat) (zs : List Int) : Prop where
  b : w.cell? ⟨bb, 0, none⟩ = some (.slice ao n c)
  fz : w.frozen? ⟨bb, 1, none⟩ = false
  len : zs.length = n
  small : n ≤ 1048576
  cap : n ≤ c
  row : 0 < n → ∃ g o, ao = some ⟨g, o, none⟩ ∧ g ≠ bb ∧ ∀ (j : Nat) z, zs[j]? = some z → w.cell? ⟨g, o + j, none⟩ = some (.int .u8 z)
  wf : ∀ z ∈ zs, 0 ≤ z ∧ z ≤ 255

theorem Buf.kept {w w' : World} {bb : Nat} {ao : Option Addr} {n c : Nat} {zs : List Int} (h : Buf w bb ao n c zs) (k : Kept bb w w') : Buf w' bb ao n c zs := by
  obtain ⟨h1, h2, h3, h4, h5, h6, h7⟩ := h
  refine ⟨k.get h1 (by simp), by rw [k.frozen ⟨bb, 1, none⟩ (show bb < _ from block_lt_of_cell h1)]; exact h2, h3, h4, h5, fun hn => ?_, h7⟩
  obtain ⟨g, o, e, hg, hc⟩ := h6 hn
  exact ⟨g, o, e, hg, fun j z hj => k.get (hc j z hj) (by intro h; injection h with h; exact hg h)⟩

set_option maxHeartbeats 400000 in
theorem inside_bad (bb : Nat) (p k : Int) (what : ByteArray) (w : World) (h : ErrIs w bb true) :
    Calls Tryf.prog 27 #[.pointer (some ⟨bb, 0, none⟩), .int .i64 p, .int .i64 k, .string what] w fun e w' => e = .returned (.bool false) ∧ w' = w := by
  obtain ⟨a, ha⟩ := h
  go_enter Tryf.func27, Tryf.ntmps27
  go_wp2
  go_ret
  exact ⟨rfl, rfl⟩

set_option maxHeartbeats 400000 in
theorem inside_ok (bb n c : Nat) (ao : Option Addr) (zs : List Int) (p k : Int) (what : ByteArray) (w : World) (h : Buf w bb ao n c zs) (he : ErrIs w bb false) (h0 : 0 ≤ p) (h1 : 0 ≤ k) (h2 : k ≤ n) (h3 : p ≤ n - k) :
    Calls Tryf.prog 27 #[.pointer (some ⟨bb, 0, none⟩), .int .i64 p, .int .i64 k, .string what] w fun e w' => e = .returned (.bool true) ∧ w' = w := by
  have he' : w.cell? ⟨bb, 1, none⟩ = some .nilIface := he
  have hb := h.b
  have hs := h.small
  clear h he
  go_enter Tryf.func27, Tryf.ntmps27
  go_wp2
  go_ret
  exact ⟨rfl, rfl⟩

theorem printed_inside (w : World) : (FmtDoors.printed (⟨#[102, 108, 97, 116, 98, 117, 102, 102, 101, 114, 58, 32]⟩ ++ ⟨#[37, 115, 32, 111, 102, 32, 37, 100, 32, 98, 121, 116, 101, 115, 32, 97, 116, 32, 37, 100, 32, 108, 105, 101, 115, 32, 111, 117, 116, 115, 105, 100, 101, 32, 116, 104, 101, 32, 37, 100, 45, 98, 121, 116, 101, 32, 98, 117, 102, 102, 101, 114]⟩) 4).run Tryf.prog w = .ok [(0, 115, false), (1, 100, false), (2, 100, false), (3, 100, false)] w := by kernel_rfl

set_option maxRecDepth 100000 in
set_option maxHeartbeats 800000 in
theorem inside_no (bb n c : Nat) (ao : Option Addr) (zs : List Int) (p k : Int) (what : ByteArray) (w : World) (h : Buf w bb ao n c zs) (he : ErrIs w bb false) (h0 : 0 ≤ p) (h1 : 0 ≤ k) (h2 : (n : Int) < k ∨ (n : Int) - k < p) :
    Calls Tryf.prog 27 #[.pointer (some ⟨bb, 0, none⟩), .int .i64 p, .int .i64 k, .string what] w fun e w' => e = .returned (.bool false) ∧ Kept bb w w' ∧ ErrIs w' bb true := by
  have he' : w.cell? ⟨bb, 1, none⟩ = some .nilIface := he
  have hb := h.b
  have hs := h.small
  have hlt := block_lt_of_cell hb
  have hb0 := fun ob => (Below.refl w.heap.size w).alloc (Nat.le_refl _) ob
  have HF := fun (E : TypeId) => fail_first bb w.heap.size 4 4 ⟨#[37, 115, 32, 111, 102, 32, 37, 100, 32, 98, 121, 116, 101, 115, 32, 97, 116, 32, 37, 100, 32, 108, 105, 101, 115, 32, 111, 117, 116, 115, 105, 100, 101, 32, 116, 104, 101, 32, 37, 100, 45, 98, 121, 116, 101, 32, 98, 117, 102, 102, 101, 114]⟩
    [(0, 115, false), (1, 100, false), (2, 100, false), (3, 100, false)] (w.alloc (.cells #[.iface 9 (.string what), .iface 3 (.int .i64 k), .iface 3 (.int .i64 p), .iface 3 (.int .i64 n)] E))
    (cell_below (hb0 _) he') (frozen_below (a := ⟨bb, 1, none⟩) (hb0 _) hlt h.fz) (by decide) (by omega) printed_inside rfl
    (fun i verb sharp hm => by
      simp only [List.mem_cons, Prod.mk.injEq, List.not_mem_nil, or_false] at hm
      rcases hm with ⟨rfl, rfl, rfl⟩ | ⟨rfl, rfl, rfl⟩ | ⟨rfl, rfl, rfl⟩ | ⟨rfl, rfl, rfl⟩
      · exact ⟨rfl, by omega, _, by rw [World.cell?_alloc_new]; rfl, plain_str _⟩
      · exact ⟨rfl, by omega, _, by rw [World.cell?_alloc_new]; rfl, plain_int _⟩
      · exact ⟨rfl, by omega, _, by rw [World.cell?_alloc_new]; rfl, plain_int _⟩
      · exact ⟨rfl, by omega, _, by rw [World.cell?_alloc_new]; rfl, plain_int _⟩)
  clear h he
  by_cases hc : (n : Int) < k
  · clear h2
    go_enter Tryf.func27, Tryf.ntmps27
    go_wp2_with fail
    refine (HF _).mono ?_
    rintro e w1 ⟨rfl, hk1, he1⟩
    have HK : Hid (Kept bb w w1) := (Kept.of_below (hb0 _)).trans hk1
    have HE : Hid (ErrIs w1 bb true) := he1
    clear hk1 he1 HF
    go_wp2
    go_ret
    exact ⟨rfl, HK.out, HE.out⟩
  · have h3 : (n : Int) - k < p := by omega
    clear h2
    go_enter Tryf.func27, Tryf.ntmps27
    go_wp2_with fail
    refine (HF _).mono ?_
    rintro e w1 ⟨rfl, hk1, he1⟩
    have HK : Hid (Kept bb w w1) := (Kept.of_below (hb0 _)).trans hk1
    have HE : Hid (ErrIs w1 bb true) := he1
    clear hk1 he1 HF
    go_wp2
    go_ret
    exact ⟨rfl, HK.out, HE.out⟩
end Go.Proofs.Qxb6617024aFmt

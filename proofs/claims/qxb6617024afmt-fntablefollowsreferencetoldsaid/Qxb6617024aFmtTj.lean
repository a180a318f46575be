import Derived.Test.Qxb6617024aFmtTi
namespace Go.Proofs.Qxb6617024aFmt
open Go.RowKit Go.Extern.Stop Go.Stop Go.Extern

theorem printed_deref (w : World) : (FmtDoors.printed (⟨#[102, 108, 97, 116, 98, 117, 102, 102, 101, 114, 58, 32]⟩ ++ ⟨#[111, 102, 102, 115, 101, 116, 32, 37, 100, 32, 97, 116, 32, 37, 100, 32, 112, 111, 105, 110, 116, 115, 32, 111, 117, 116, 115, 105, 100, 101, 32, 116, 104, 101, 32, 37, 100, 45, 98, 121, 116, 101, 32, 98, 117, 102, 102, 101, 114]⟩) 3).run Tryf.prog w = .ok [(0, 100, false), (1, 100, false), (2, 100, false)] w := by kernel_rfl

theorem ErrIs.below {w w' : World} {bb : Nat} {x : Bool} (h : ErrIs w bb x) (hb : Below w.heap.size w w') : ErrIs w' bb x := by
  cases x with
  | false => exact cell_below hb h
  | true => obtain ⟨a, ha⟩ := h; exact ⟨a, cell_below hb ha⟩

set_option maxHeartbeats 800000 in
theorem deref_ok (bb n c : Nat) (ao : Option Addr) (zs : List Int) (p : Int) (w : World) (h : Buf w bb ao n c zs) (he : ErrIs w bb false) (h0 : 0 ≤ p) (h1 : p ≤ (n : Int) - 4) (h2 : le32 zs p < n - p) :
    Calls Tryf.prog 26 #[.pointer (some ⟨bb, 0, none⟩), .int .i64 p] w fun e w' => e = .returned (.int .i64 (p + le32 zs p)) ∧ Kept bb w w' ∧ ErrIs w' bb false := by
  have C1 := fun s => inside_ok bb n c ao zs p 4 s w h he h0 (by omega) (by omega) (by omega)
  have C2 := u32_walk bb n c p ao zs w h h0 (by omega)
  have hs := h.small
  have hbf : ∀ w1, Below w.heap.size w w1 → w1.cell? ⟨bb, 0, none⟩ = some (.slice ao n c) := fun w1 hb => cell_below hb h.b
  have HE : Hid (ErrIs w bb false) := he
  obtain ⟨l1, l2⟩ := le32_wf h.wf p
  clear h he
  generalize le32 zs p = b at *
  go_enter Tryf.func26, Tryf.ntmps26
  go_wp2_with fail
  refine (C1 _).mono ?_
  rintro e w' ⟨rfl, hw'⟩
  subst w'
  go_wp2_with fail
  refine C2.mono ?_
  rintro e w1 ⟨rfl, hb1⟩
  have q1 := hbf w1 hb1
  have HB : Hid (Below w.heap.size w w1) := hb1
  clear hb1 hbf C1 C2
  go_wp2
  go_ret
  exact ⟨rfl, Kept.of_below HB.out, HE.out.below HB.out⟩

set_option maxRecDepth 100000 in
set_option maxHeartbeats 800000 in
theorem deref_no (bb n c : Nat) (ao : Option Addr) (zs : List Int) (p : Int) (w : World) (h : Buf w bb ao n c zs) (he : ErrIs w bb false) (h0 : 0 ≤ p) (h1 : p ≤ (n : Int) - 4) (h2 : (n : Int) - p ≤ le32 zs p) :
    Calls Tryf.prog 26 #[.pointer (some ⟨bb, 0, none⟩), .int .i64 p] w fun e w' => e = .returned (.int .i64 (-1)) ∧ Kept bb w w' ∧ ErrIs w' bb true := by
  have C1 := fun s => inside_ok bb n c ao zs p 4 s w h he h0 (by omega) (by omega) (by omega)
  have C2 := u32_walk bb n c p ao zs w h h0 (by omega)
  have hs := h.small
  have hbf : ∀ w1, Below w.heap.size w w1 → w1.cell? ⟨bb, 0, none⟩ = some (.slice ao n c) := fun w1 hb => cell_below hb h.b
  have HH : Hid (Buf w bb ao n c zs) := h
  have HE : Hid (ErrIs w bb false) := he
  obtain ⟨l1, l2⟩ := le32_wf h.wf p
  clear h he
  generalize le32 zs p = b at *
  go_enter Tryf.func26, Tryf.ntmps26
  go_wp2_with fail
  refine (C1 _).mono ?_
  rintro e w' ⟨rfl, hw'⟩
  subst w'
  go_wp2_with fail
  refine C2.mono ?_
  rintro e w1 ⟨rfl, hb1⟩
  have q1 := hbf w1 hb1
  have HB : Hid (Below w.heap.size w w1) := hb1
  clear hb1 hbf C1 C2
  have hb0 := fun ob => (Below.refl w1.heap.size w1).alloc (Nat.le_refl _) ob
  have HF := fun (E : TypeId) => fail_first bb w1.heap.size 3 3 ⟨#[111, 102, 102, 115, 101, 116, 32, 37, 100, 32, 97, 116, 32, 37, 100, 32, 112, 111, 105, 110, 116, 115, 32, 111, 117, 116, 115, 105, 100, 101, 32, 116, 104, 101, 32, 37, 100, 45, 98, 121, 116, 101, 32, 98, 117, 102, 102, 101, 114]⟩
    [(0, 100, false), (1, 100, false), (2, 100, false)] (w1.alloc (.cells #[.iface 44 (.int .u32 b), .iface 3 (.int .i64 p), .iface 3 (.int .i64 n)] E))
    (cell_below (hb0 _) (HE.out.below HB.out)) (frozen_below (a := ⟨bb, 1, none⟩) (hb0 _) (show bb < _ from block_lt_of_cell q1) ((Buf.kept HH.out (Kept.of_below HB.out)).fz)) (by decide) (by omega) printed_deref rfl
    (fun i verb sharp hm => by
      simp only [List.mem_cons, Prod.mk.injEq, List.not_mem_nil, or_false] at hm
      rcases hm with ⟨rfl, rfl, rfl⟩ | ⟨rfl, rfl, rfl⟩ | ⟨rfl, rfl, rfl⟩
      · exact ⟨rfl, by omega, _, by rw [World.cell?_alloc_new]; rfl, plain_u32 _⟩
      · exact ⟨rfl, by omega, _, by rw [World.cell?_alloc_new]; rfl, plain_int _⟩
      · exact ⟨rfl, by omega, _, by rw [World.cell?_alloc_new]; rfl, plain_int _⟩)
  have HK0 : Hid (∀ ob, Kept bb w (w1.alloc ob)) := fun ob => (Kept.of_below HB.out).trans (Kept.of_below (hb0 ob))
  clear hb0
  go_wp2_with fail
  refine (HF _).mono ?_
  rintro e w2 ⟨rfl, hk1, he1⟩
  have HK : Hid (Kept bb w w2) := (HK0.out _).trans hk1
  have HE2 : Hid (ErrIs w2 bb true) := he1
  clear hk1 he1 HF
  go_wp2
  go_ret
  exact ⟨rfl, HK.out, HE2.out⟩
end Go.Proofs.Qxb6617024aFmt

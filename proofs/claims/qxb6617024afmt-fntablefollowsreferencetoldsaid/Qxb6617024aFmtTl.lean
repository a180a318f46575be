import Derived.Test.Qxb6617024aFmtTk
namespace Go.Proofs.Qxb6617024aFmt
open Go.RowKit Go.Extern.Stop Go.Stop Go.Extern

theorem hide {p : Prop} (h : p) : Hid p := h

theorem printed_vt (w : World) : (FmtDoors.printed (⟨#[102, 108, 97, 116, 98, 117, 102, 102, 101, 114, 58, 32]⟩ ++ ⟨#[118, 116, 97, 98, 108, 101, 32, 111, 102, 32, 116, 97, 98, 108, 101, 32, 97, 116, 32, 37, 100, 32, 108, 105, 101, 115, 32, 111, 117, 116, 115, 105, 100, 101, 32, 116, 104, 101, 32, 98, 117, 102, 102, 101, 114]⟩) 1).run Tryf.prog w = .ok [(0, 100, false)] w := by kernel_rfl
theorem fail_vt (bb : Nat) (p : Int) (w : World) (he : ErrIs w bb false) (hfz : w.frozen? ⟨bb, 1, none⟩ = false) (E : TypeId) :
    Calls Tryf.prog 29 #[.pointer (some ⟨bb, 0, none⟩), .string ⟨#[118, 116, 97, 98, 108, 101, 32, 111, 102, 32, 116, 97, 98, 108, 101, 32, 97, 116, 32, 37, 100, 32, 108, 105, 101, 115, 32, 111, 117, 116, 115, 105, 100, 101, 32, 116, 104, 101, 32, 98, 117, 102, 102, 101, 114]⟩, .slice (some ⟨w.heap.size, 0, none⟩) 1 1] (w.alloc (.cells #[.iface 3 (.int .i64 p)] E)) fun e w' => e = .returned (.tuple #[]) ∧ Kept bb w w' ∧ ErrIs w' bb true := by
  have he' : w.cell? ⟨bb, 1, none⟩ = some .nilIface := he
  have hb0 := fun ob => (Below.refl w.heap.size w).alloc (Nat.le_refl _) ob
  refine (fail_first bb w.heap.size 1 1 ⟨#[118, 116, 97, 98, 108, 101, 32, 111, 102, 32, 116, 97, 98, 108, 101, 32, 97, 116, 32, 37, 100, 32, 108, 105, 101, 115, 32, 111, 117, 116, 115, 105, 100, 101, 32, 116, 104, 101, 32, 98, 117, 102, 102, 101, 114]⟩ [(0, 100, false)] (w.alloc (.cells #[.iface 3 (.int .i64 p)] E))
    (cell_below (hb0 _) he') (frozen_below (a := ⟨bb, 1, none⟩) (hb0 _) (show bb < _ from block_lt_of_cell he') hfz) (by decide) (by omega) printed_vt rfl
    (fun i verb sharp hm => by
      simp only [List.mem_cons, Prod.mk.injEq, List.not_mem_nil, or_false] at hm
      obtain ⟨rfl, rfl, rfl⟩ := hm
      · exact ⟨rfl, by omega, _, by rw [World.cell?_alloc_new]; rfl, plain_int _⟩)).mono ?_
  rintro e w1 ⟨rfl, hk, he1⟩
  exact ⟨rfl, (Kept.of_below (hb0 _)).trans hk, he1⟩

theorem printed_sizes (w : World) : (FmtDoors.printed (⟨#[102, 108, 97, 116, 98, 117, 102, 102, 101, 114, 58, 32]⟩ ++ ⟨#[118, 116, 97, 98, 108, 101, 32, 97, 116, 32, 37, 100, 32, 103, 105, 118, 101, 115, 32, 115, 105, 122, 101, 115, 32, 37, 100, 32, 97, 110, 100, 32, 37, 100]⟩) 3).run Tryf.prog w = .ok [(0, 100, false), (1, 100, false), (2, 100, false)] w := by kernel_rfl
theorem fail_sizes (bb : Nat) (v x y : Int) (w : World) (he : ErrIs w bb false) (hfz : w.frozen? ⟨bb, 1, none⟩ = false) (E : TypeId) :
    Calls Tryf.prog 29 #[.pointer (some ⟨bb, 0, none⟩), .string ⟨#[118, 116, 97, 98, 108, 101, 32, 97, 116, 32, 37, 100, 32, 103, 105, 118, 101, 115, 32, 115, 105, 122, 101, 115, 32, 37, 100, 32, 97, 110, 100, 32, 37, 100]⟩, .slice (some ⟨w.heap.size, 0, none⟩) 3 3] (w.alloc (.cells #[.iface 2 (.int .i64 v), .iface 3 (.int .i64 x), .iface 3 (.int .i64 y)] E)) fun e w' => e = .returned (.tuple #[]) ∧ Kept bb w w' ∧ ErrIs w' bb true := by
  have he' : w.cell? ⟨bb, 1, none⟩ = some .nilIface := he
  have hb0 := fun ob => (Below.refl w.heap.size w).alloc (Nat.le_refl _) ob
  refine (fail_first bb w.heap.size 3 3 ⟨#[118, 116, 97, 98, 108, 101, 32, 97, 116, 32, 37, 100, 32, 103, 105, 118, 101, 115, 32, 115, 105, 122, 101, 115, 32, 37, 100, 32, 97, 110, 100, 32, 37, 100]⟩ [(0, 100, false), (1, 100, false), (2, 100, false)] (w.alloc (.cells #[.iface 2 (.int .i64 v), .iface 3 (.int .i64 x), .iface 3 (.int .i64 y)] E))
    (cell_below (hb0 _) he') (frozen_below (a := ⟨bb, 1, none⟩) (hb0 _) (show bb < _ from block_lt_of_cell he') hfz) (by decide) (by omega) printed_sizes rfl
    (fun i verb sharp hm => by
      simp only [List.mem_cons, Prod.mk.injEq, List.not_mem_nil, or_false] at hm
      rcases hm with ⟨rfl, rfl, rfl⟩ | ⟨rfl, rfl, rfl⟩ | ⟨rfl, rfl, rfl⟩
      · exact ⟨rfl, by omega, _, by rw [World.cell?_alloc_new]; rfl, plain_i64 _⟩
      · exact ⟨rfl, by omega, _, by rw [World.cell?_alloc_new]; rfl, plain_int _⟩
      · exact ⟨rfl, by omega, _, by rw [World.cell?_alloc_new]; rfl, plain_int _⟩)).mono ?_
  rintro e w1 ⟨rfl, hk, he1⟩
  exact ⟨rfl, (Kept.of_below (hb0 _)).trans hk, he1⟩

theorem printed_slot (w : World) : (FmtDoors.printed (⟨#[102, 108, 97, 116, 98, 117, 102, 102, 101, 114, 58, 32]⟩ ++ ⟨([102, 105, 101, 108, 100, 32, 105, 110, 32, 115, 108, 111, 116, 32, 37, 100, 32, 111, 102, 32, 116, 97, 98, 108, 101, 32, 97, 116, 32, 37, 100, 32, 111, 118, 101, 114].append [108, 97, 112, 115, 32, 116, 104, 101, 32, 116, 97, 98, 108, 101, 39, 115, 32, 111, 102, 102, 115, 101, 116, 32, 116, 111, 32, 105, 116, 115, 32, 118, 116, 97, 98, 108, 101]).toArray⟩) 2).run Tryf.prog w = .ok [(0, 100, false), (1, 100, false)] w := by kernel_rfl
theorem fail_slot (bb : Nat) (s p : Int) (w : World) (he : ErrIs w bb false) (hfz : w.frozen? ⟨bb, 1, none⟩ = false) (E : TypeId) :
    Calls Tryf.prog 29 #[.pointer (some ⟨bb, 0, none⟩), .string ⟨([102, 105, 101, 108, 100, 32, 105, 110, 32, 115, 108, 111, 116, 32, 37, 100, 32, 111, 102, 32, 116, 97, 98, 108, 101, 32, 97, 116, 32, 37, 100, 32, 111, 118, 101, 114].append [108, 97, 112, 115, 32, 116, 104, 101, 32, 116, 97, 98, 108, 101, 39, 115, 32, 111, 102, 102, 115, 101, 116, 32, 116, 111, 32, 105, 116, 115, 32, 118, 116, 97, 98, 108, 101]).toArray⟩, .slice (some ⟨w.heap.size, 0, none⟩) 2 2] (w.alloc (.cells #[.iface 3 (.int .i64 s), .iface 3 (.int .i64 p)] E)) fun e w' => e = .returned (.tuple #[]) ∧ Kept bb w w' ∧ ErrIs w' bb true := by
  have he' : w.cell? ⟨bb, 1, none⟩ = some .nilIface := he
  have hb0 := fun ob => (Below.refl w.heap.size w).alloc (Nat.le_refl _) ob
  refine (fail_first bb w.heap.size 2 2 ⟨([102, 105, 101, 108, 100, 32, 105, 110, 32, 115, 108, 111, 116, 32, 37, 100, 32, 111, 102, 32, 116, 97, 98, 108, 101, 32, 97, 116, 32, 37, 100, 32, 111, 118, 101, 114].append [108, 97, 112, 115, 32, 116, 104, 101, 32, 116, 97, 98, 108, 101, 39, 115, 32, 111, 102, 102, 115, 101, 116, 32, 116, 111, 32, 105, 116, 115, 32, 118, 116, 97, 98, 108, 101]).toArray⟩ [(0, 100, false), (1, 100, false)] (w.alloc (.cells #[.iface 3 (.int .i64 s), .iface 3 (.int .i64 p)] E))
    (cell_below (hb0 _) he') (frozen_below (a := ⟨bb, 1, none⟩) (hb0 _) (show bb < _ from block_lt_of_cell he') hfz) (by decide) (by omega) printed_slot rfl
    (fun i verb sharp hm => by
      simp only [List.mem_cons, Prod.mk.injEq, List.not_mem_nil, or_false] at hm
      rcases hm with ⟨rfl, rfl, rfl⟩ | ⟨rfl, rfl, rfl⟩
      · exact ⟨rfl, by omega, _, by rw [World.cell?_alloc_new]; rfl, plain_int _⟩
      · exact ⟨rfl, by omega, _, by rw [World.cell?_alloc_new]; rfl, plain_int _⟩)).mono ?_
  rintro e w1 ⟨rfl, hk, he1⟩
  exact ⟨rfl, (Kept.of_below (hb0 _)).trans hk, he1⟩

theorem printed_field (w : World) : (FmtDoors.printed (⟨#[102, 108, 97, 116, 98, 117, 102, 102, 101, 114, 58, 32]⟩ ++ ⟨([102, 105, 101, 108, 100, 32, 111, 102, 32, 37, 100, 32, 98, 121, 116, 101, 115, 32, 105, 110, 32, 115, 108, 111, 116, 32, 37, 100, 32, 111, 102, 32, 116, 97, 98, 108, 101].append [32, 97, 116, 32, 37, 100, 32, 108, 105, 101, 115, 32, 111, 117, 116, 115, 105, 100, 101, 32, 116, 104, 101, 32, 37, 100, 45, 98, 121, 116, 101, 32, 98, 117, 102, 102, 101, 114]).toArray⟩) 4).run Tryf.prog w = .ok [(0, 100, false), (1, 100, false), (2, 100, false), (3, 100, false)] w := by kernel_rfl
theorem fail_field (bb : Nat) (k s p n : Int) (w : World) (he : ErrIs w bb false) (hfz : w.frozen? ⟨bb, 1, none⟩ = false) (E : TypeId) :
    Calls Tryf.prog 29 #[.pointer (some ⟨bb, 0, none⟩), .string ⟨([102, 105, 101, 108, 100, 32, 111, 102, 32, 37, 100, 32, 98, 121, 116, 101, 115, 32, 105, 110, 32, 115, 108, 111, 116, 32, 37, 100, 32, 111, 102, 32, 116, 97, 98, 108, 101].append [32, 97, 116, 32, 37, 100, 32, 108, 105, 101, 115, 32, 111, 117, 116, 115, 105, 100, 101, 32, 116, 104, 101, 32, 37, 100, 45, 98, 121, 116, 101, 32, 98, 117, 102, 102, 101, 114]).toArray⟩, .slice (some ⟨w.heap.size, 0, none⟩) 4 4] (w.alloc (.cells #[.iface 3 (.int .i64 k), .iface 3 (.int .i64 s), .iface 3 (.int .i64 p), .iface 3 (.int .i64 n)] E)) fun e w' => e = .returned (.tuple #[]) ∧ Kept bb w w' ∧ ErrIs w' bb true := by
  have he' : w.cell? ⟨bb, 1, none⟩ = some .nilIface := he
  have hb0 := fun ob => (Below.refl w.heap.size w).alloc (Nat.le_refl _) ob
  refine (fail_first bb w.heap.size 4 4 ⟨([102, 105, 101, 108, 100, 32, 111, 102, 32, 37, 100, 32, 98, 121, 116, 101, 115, 32, 105, 110, 32, 115, 108, 111, 116, 32, 37, 100, 32, 111, 102, 32, 116, 97, 98, 108, 101].append [32, 97, 116, 32, 37, 100, 32, 108, 105, 101, 115, 32, 111, 117, 116, 115, 105, 100, 101, 32, 116, 104, 101, 32, 37, 100, 45, 98, 121, 116, 101, 32, 98, 117, 102, 102, 101, 114]).toArray⟩ [(0, 100, false), (1, 100, false), (2, 100, false), (3, 100, false)] (w.alloc (.cells #[.iface 3 (.int .i64 k), .iface 3 (.int .i64 s), .iface 3 (.int .i64 p), .iface 3 (.int .i64 n)] E))
    (cell_below (hb0 _) he') (frozen_below (a := ⟨bb, 1, none⟩) (hb0 _) (show bb < _ from block_lt_of_cell he') hfz) (by decide) (by omega) printed_field rfl
    (fun i verb sharp hm => by
      simp only [List.mem_cons, Prod.mk.injEq, List.not_mem_nil, or_false] at hm
      rcases hm with ⟨rfl, rfl, rfl⟩ | ⟨rfl, rfl, rfl⟩ | ⟨rfl, rfl, rfl⟩ | ⟨rfl, rfl, rfl⟩
      · exact ⟨rfl, by omega, _, by rw [World.cell?_alloc_new]; rfl, plain_int _⟩
      · exact ⟨rfl, by omega, _, by rw [World.cell?_alloc_new]; rfl, plain_int _⟩
      · exact ⟨rfl, by omega, _, by rw [World.cell?_alloc_new]; rfl, plain_int _⟩
      · exact ⟨rfl, by omega, _, by rw [World.cell?_alloc_new]; rfl, plain_int _⟩)).mono ?_
  rintro e w1 ⟨rfl, hk, he1⟩
  exact ⟨rfl, (Kept.of_below (hb0 _)).trans hk, he1⟩

end Go.Proofs.Qxb6617024aFmt

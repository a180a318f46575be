import Derived.Test.Qxb6616845aRows
import Derived.WalkKit
import Derived.WalkSpells
import Derived.WalkLawsBesides
import Derived.Lib.QuietBelow
import Derived.BigQuiet
namespace Go.Proofs.Qxb6616845a
open Go.RowKit Go.Sort

theorem cell_below {w w' : World} (hb : Below w.heap.size w w') {a : Addr} {v : Value} (h : w.cell? a = some v) : w'.cell? a = some v := by
  rw [hb.cell (block_lt_of_cell h)]; exact h

/-- What line i's part says: is it refused? -/
def at1 (bs : List Bool) (i : Nat) : Bool := bs.getD (i - 1) false

/-- The refusals behind a box: block rb holds the slice; her first n cells are bs. -/
structure Tab (w : World) (rb n : Nat) (bs : List Bool) : Prop where
  len : bs.length = n
  small : n ≤ 65536
  box : ∃ ao c, w.cell? ⟨rb, 0, none⟩ = some (.slice ao n c) ∧ (0 < n → ∃ g o, ao = some ⟨g, o, none⟩ ∧ ∀ (j : Nat) b, bs[j]? = some b → w.cell? ⟨g, o + j, none⟩ = some (.bool b))

theorem Tab.below {w w' : World} {rb n : Nat} {bs : List Bool} (h : Tab w rb n bs) (hb : Below w.heap.size w w') : Tab w' rb n bs := by
  obtain ⟨h1, h2, ao, c, h3, h4⟩ := h
  refine ⟨h1, h2, ao, c, cell_below hb h3, fun hn => ?_⟩
  obtain ⟨g, o, e, h5⟩ := h4 hn
  exact ⟨g, o, e, fun j b hj => cell_below hb (h5 j b hj)⟩

theorem at1_get {bs : List Bool} {i : Nat} (h1 : 1 ≤ i) (h2 : i ≤ bs.length) : bs[i - 1]? = some (at1 bs i) := by
  have : i - 1 < bs.length := by omega
  simp [at1, List.getD_eq_getElem?_getD, List.getElem?_eq_getElem this]

set_option maxHeartbeats 400000 in
/-- ZZfaultLine's closure at a line of the file. -/
theorem refused_any (i : Int) (rb n : Nat) (bs : List Bool) (w : World) (h : Tab w rb n bs) (h1 : 1 ≤ i) (h2 : i ≤ n) :
    Calls Try.prog 9 #[.int .i64 i, .pointer (some ⟨rb, 0, none⟩)] w fun e w' => e = .returned (.bool (at1 bs i.toNat)) ∧ w' = w := by
  obtain ⟨hl, hs, ao, c, hbox, hcells⟩ := h
  obtain ⟨k, rfl⟩ : ∃ k : Nat, i = (k : Int) + 1 := ⟨(i - 1).toNat, by omega⟩
  obtain ⟨g, o, rfl, hc⟩ := hcells (by omega)
  have e : ((k : Int) + 1).toNat = k + 1 := by omega
  rw [e]
  have hg := hc k _ (at1_get (i := k + 1) (bs := bs) (by omega) (by omega))
  generalize at1 bs (k + 1) = b at *
  have hk : k < n := by omega
  clear hc hcells hl h1 h2 e
  go_enter Try.func9, Try.ntmps9
  go_wp2
  go_ret
  exact ⟨rfl, rfl⟩

set_option maxHeartbeats 400000 in
/-- faultLine's first closure: line i + 1. -/
theorem first_any (i : Int) (fb rb n : Nat) (bs : List Bool) (w : World) (h : Tab w rb n bs) (hf : w.cell? ⟨fb, 0, none⟩ = some (.func (.func 9) #[] #[.pointer (some ⟨rb, 0, none⟩)])) (h1 : 0 ≤ i) (h2 : i < n) :
    Calls Try.prog 11 #[.int .i64 i, .pointer (some ⟨fb, 0, none⟩)] w fun e w' => e = .returned (.bool (at1 bs (i + 1).toNat)) ∧ w' = w := by
  have H := refused_any (i + 1) rb n bs w h (by omega) (by omega)
  have hs := h.small
  clear h
  generalize at1 bs (i + 1).toNat = b at *
  go_enter Try.func11, Try.ntmps11
  go_wp2_with fail
  refine H.mono ?_
  rintro e w' ⟨rfl, hw⟩
  subst w'
  go_wp2
  go_ret
  exact ⟨rfl, rfl⟩

set_option maxHeartbeats 400000 in
/-- faultLine's second closure: line named + i. -/
theorem second_any (i nm : Int) (fb nb rb n : Nat) (bs : List Bool) (w : World) (h : Tab w rb n bs) (hf : w.cell? ⟨fb, 0, none⟩ = some (.func (.func 9) #[] #[.pointer (some ⟨rb, 0, none⟩)])) (hn : w.cell? ⟨nb, 0, none⟩ = some (.int .i64 nm))
    (h0 : 1 ≤ nm) (h1 : 0 ≤ i) (h2 : nm + i ≤ n) :
    Calls Try.prog 12 #[.int .i64 i, .pointer (some ⟨fb, 0, none⟩), .pointer (some ⟨nb, 0, none⟩)] w fun e w' => e = .returned (.bool (at1 bs (nm + i).toNat)) ∧ w' = w := by
  have H := refused_any (nm + i) rb n bs w h (by omega) (by omega)
  have hs := h.small
  clear h
  generalize at1 bs (nm + i).toNat = b at *
  go_enter Try.func12, Try.ntmps12
  go_wp2_with fail
  refine H.mono ?_
  rintro e w' ⟨rfl, hw⟩
  subst w'
  go_wp2
  go_ret
  exact ⟨rfl, rfl⟩
end Go.Proofs.Qxb6616845a

import Derived.Test.Qxb6616771aSc
import Derived.BigRegion
import Derived.Laws.CopyOwn
namespace Go.Proofs.Qxb6616771a
open Go.RowKit Go.Sort

theorem Try.info34 : (Try.prog.info? 34).map (fun i => (i.zero, i.size, i.bytes)) = some (some .nilIface, 1, 16) := by kernel_rfl
theorem Try.info38 : (Try.prog.info? 38).map (fun i => (i.zero, i.size, i.bytes)) = some (some (.agg #[.string ⟨#[]⟩, .int .i64 0]), 2, 24) := by kernel_rfl
theorem Try.info9 : (Try.prog.info? 9).map (fun i => (i.zero, i.size, i.bytes)) = some (some (.string ⟨#[]⟩), 1, 16) := by kernel_rfl
theorem Try.info3 : (Try.prog.info? 3).map (fun i => (i.zero, i.size, i.bytes)) = some (some (.int .i64 0), 1, 8) := by kernel_rfl
theorem Try.size9 : (Try.prog.info? 9).map (·.size) = some 1 := by kernel_rfl

/-- A new row of n cells. -/
def blank (z : Value) (n : Nat) : Array Value := madeCells z.cells n
theorem size_blank (z : Value) (n : Nat) : (blank z n).size = n := by simp [blank, size_madeCells]

theorem make_row {t e : TypeId} {z : Value} {sz by' : Nat} (ht : Try.prog.underlying t = some (.slice e)) (hi : (Try.prog.info? e).map (fun i => (i.zero, i.size, i.bytes)) = some (some z, sz, by')) (hby : by' ≤ 24) (n : Nat) (hn : n ≤ 1048576) (w : World) :
    (Instr.makeSlice t (.int .i64 n) (.int .i64 n)).run Try.prog w = .ok (.slice (some ⟨w.heap.size, 0, none⟩) n n) (w.alloc (.cells (blank z (n * sz)) e)) := by
  obtain ⟨i, hi, hz, hs, hb⟩ := info_parts hi
  have h := run_make (P := Try.prog) w t e i z ht hi hz .i64 .i64 n n (by omega) (by omega) (by
    rw [hb]
    have : by' * n ≤ 24 * n := Nat.mul_le_mul_right n hby
    have h2 : ((by' * n : Nat) : Int) ≤ 25165824 := by omega
    rw [Int.natCast_mul] at h2
    omega) (by omega)
  rw [h, hs]
  simp [blank]

/-- What is told of a slice of strings: its cells from the head on. -/
structure Strs (w : World) (ao : Option Addr) (n : Nat) (xs : List ByteArray) : Prop where
  len : xs.length = n
  small : n ≤ 65536
  at' : ∃ bk o, (0 < n → ao = some ⟨bk, o, none⟩) ∧ ∀ (j : Nat) x, xs[j]? = some x → w.cell? ⟨bk, o + j, none⟩ = some (.string x)
/-- .. of a slice of ints: each of the first n cells holds some int. -/
def Ints (w : World) (g n : Nat) : Prop := ∀ j, j < n → ∃ z : Int, w.cell? ⟨g, j, none⟩ = some (.int .i64 z)

theorem Strs.below {w w' : World} {ao : Option Addr} {n : Nat} {xs : List ByteArray} (h : Strs w ao n xs) (hb : Below w.heap.size w w') : Strs w' ao n xs := by
  obtain ⟨h1, h2, bk, o, h3, h4⟩ := h
  exact ⟨h1, h2, bk, o, h3, fun j x hx => cell_below hb (h4 j x hx)⟩
theorem Ints.below {w w' : World} {g n : Nat} (h : Ints w g n) (hb : Below w.heap.size w w') : Ints w' g n := fun j hj => by
  obtain ⟨z, hz⟩ := h j hj
  exact ⟨z, cell_below hb hz⟩

/-- The row of operands while it is filled. -/
structure Inv1 (w wr : World) (g n k : Nat) (xs : List ByteArray) : Prop where
  below : Below w.heap.size w wr
  big : w.heap.size ≤ g
  lt : g < wr.heap.size
  room : ∀ j, j < n → (∃ v, wr.cell? ⟨g, j, none⟩ = some v) ∧ wr.frozen? ⟨g, j, none⟩ = false
  done : ∀ (j : Nat) x, j < k → xs[j]? = some x → ∃ b, g < b ∧ wr.cell? ⟨g, j, none⟩ = some (.iface 30 (.pointer (some ⟨b, 0, none⟩))) ∧ wr.cell? ⟨b, 0, none⟩ = some (.string x)

theorem Inv1.start (w : World) (n : Nat) (xs : List ByteArray) : Inv1 w (w.alloc (.cells (blank .nilIface n) 34)) w.heap.size n 0 xs where
  below := (Below.refl _ _).alloc (Nat.le_refl _) _
  big := Nat.le_refl _
  lt := by simp
  room := fun j hj => by
    refine ⟨⟨(blank .nilIface n)[j]'(by rw [size_blank]; omega), ?_⟩, by simp⟩
    rw [World.cell?_alloc_new, Array.getElem?_eq_getElem]
  done := fun j x h => absurd h (by omega)

theorem cell_alloc (w : World) (o : Obj) (b j : Nat) (h : b < w.heap.size) : (w.alloc o).cell? ⟨b, j, none⟩ = w.cell? ⟨b, j, none⟩ :=
  ((Below.refl w.heap.size w).alloc (Nat.le_refl _) o).cell (p := ⟨b, j, none⟩) h

theorem Inv1.step {w wr : World} {g n k : Nat} {xs : List ByteArray} (h : Inv1 w wr g n k xs) (hk : k < n) {x : ByteArray} (hx : xs[k]? = some x) (z : Int) :
    Inv1 w ((wr.setCell ⟨g, k, none⟩ (.iface 30 (.pointer (some ⟨wr.heap.size, 0, none⟩)))).alloc (.cells #[.string x, .int .i64 z] 32)).drew g n (k + 1) xs := by
  obtain ⟨hB, hbig, hlt, hroom, hdone⟩ := h
  have hsz : (wr.setCell ⟨g, k, none⟩ (.iface 30 (.pointer (some ⟨wr.heap.size, 0, none⟩)))).heap.size = wr.heap.size := by simp [World.setCell]
  have hsz0 := hB.size
  obtain ⟨⟨v, hv⟩, hf⟩ := hroom k hk
  have old : ∀ (b j : Nat), b < wr.heap.size → ((wr.setCell ⟨g, k, none⟩ (.iface 30 (.pointer (some ⟨wr.heap.size, 0, none⟩)))).alloc (.cells #[.string x, .int .i64 z] 32)).drew.cell? ⟨b, j, none⟩ = (wr.setCell ⟨g, k, none⟩ (.iface 30 (.pointer (some ⟨wr.heap.size, 0, none⟩)))).cell? ⟨b, j, none⟩ := fun b j hb => by
    rw [World.cell?_drew, cell_alloc _ _ b j (by rw [hsz]; exact hb)]
  have same : ((wr.setCell ⟨g, k, none⟩ (.iface 30 (.pointer (some ⟨wr.heap.size, 0, none⟩)))).alloc (.cells #[.string x, .int .i64 z] 32)).drew.cell? ⟨g, k, none⟩ = some (.iface 30 (.pointer (some ⟨wr.heap.size, 0, none⟩))) := by
    rw [old g k hlt, World.cell?_setCell_same _ _ _ hv]
  have other : ∀ (b j : Nat), b < wr.heap.size → ¬ (b = g ∧ j = k) → ((wr.setCell ⟨g, k, none⟩ (.iface 30 (.pointer (some ⟨wr.heap.size, 0, none⟩)))).alloc (.cells #[.string x, .int .i64 z] 32)).drew.cell? ⟨b, j, none⟩ = wr.cell? ⟨b, j, none⟩ := fun b j hb hne => by
    rw [old b j hb, World.cell?_setCell_other _ _ _ _ (by intro e; simp at e; exact hne ⟨e.1.symm, e.2.symm⟩)]
  refine ⟨((hB.setCell hbig _).alloc (by rw [hsz]; omega) _).drew, hbig, ?_, fun j hj => ⟨?_, ?_⟩, fun j y hj hy => ?_⟩
  · show g < (World.alloc _ _).heap.size
    rw [World.size_alloc, hsz]; omega
  · by_cases hjk : j = k
    · subst hjk; exact ⟨_, same⟩
    · obtain ⟨⟨u, hu⟩, _⟩ := hroom j hj
      exact ⟨u, by rw [other g j hlt (by omega)]; exact hu⟩
  · rw [World.frozen?_drew, World.frozen?_alloc_past _ _ _ (by rw [hsz]; exact hlt), World.frozen?_setCell]
    exact (hroom j hj).2
  · by_cases hjk : j = k
    · subst hjk
      rw [hx] at hy
      simp only [Option.some.injEq] at hy
      subst hy
      refine ⟨wr.heap.size, hlt, same, ?_⟩
      have hnew := World.cell?_alloc_new (wr.setCell ⟨g, j, none⟩ (.iface 30 (.pointer (some ⟨wr.heap.size, 0, none⟩)))) #[.string x, .int .i64 z] 32 0
      rw [hsz] at hnew
      exact hnew
    · obtain ⟨b, hgb, h1, h2⟩ := hdone j y (by omega) hy
      have hb := block_lt_of_cell h2
      exact ⟨b, hgb, by rw [other g j hlt (by omega)]; exact h1, by rw [other b 0 hb (by omega)]; exact h2⟩

/-- The row of operators while it is filled. -/
structure Inv2 (w wr : World) (g n k : Nat) (xs : List ByteArray) : Prop where
  below : Below w.heap.size w wr
  big : w.heap.size ≤ g
  lt : g < wr.heap.size
  room : ∀ j, j < n * 2 → (∃ v, wr.cell? ⟨g, j, none⟩ = some v) ∧ wr.frozen? ⟨g, j, none⟩ = false
  done : ∀ (j : Nat) x, j < k → xs[j]? = some x → ∃ p : Int, wr.cell? ⟨g, j * 2, none⟩ = some (.string x) ∧ wr.cell? ⟨g, j * 2 + 1, none⟩ = some (.int .i64 p)

theorem Inv2.start (w : World) (n : Nat) (xs : List ByteArray) : Inv2 w (w.alloc (.cells (blank (.agg #[.string ⟨#[]⟩, .int .i64 0]) (n * 2)) 38)) w.heap.size n 0 xs where
  below := (Below.refl _ _).alloc (Nat.le_refl _) _
  big := Nat.le_refl _
  lt := by simp
  room := fun j hj => by
    refine ⟨⟨(blank (.agg #[.string ⟨#[]⟩, .int .i64 0]) (n * 2))[j]'(by rw [size_blank]; omega), ?_⟩, by simp⟩
    rw [World.cell?_alloc_new, Array.getElem?_eq_getElem]
  done := fun j x h => absurd h (by omega)

theorem Inv2.step {w wr : World} {g n k : Nat} {xs : List ByteArray} (h : Inv2 w wr g n k xs) (hk : k < n) {x : ByteArray} (hx : xs[k]? = some x) (z : Int) :
    Inv2 w ((wr.setCell ⟨g, k * 2, none⟩ (.string x)).setCell ⟨g, k * 2 + 1, none⟩ (.int .i64 z)).drew g n (k + 1) xs := by
  obtain ⟨hB, hbig, hlt, hroom, hdone⟩ := h
  obtain ⟨⟨v, hv⟩, _⟩ := hroom (k * 2) (by omega)
  obtain ⟨⟨u, hu⟩, _⟩ := hroom (k * 2 + 1) (by omega)
  have ne1 : (⟨g, k * 2, none⟩ : Addr) ≠ ⟨g, k * 2 + 1, none⟩ := by intro e; simp at e
  have hu' : (wr.setCell ⟨g, k * 2, none⟩ (.string x)).cell? ⟨g, k * 2 + 1, none⟩ = some u := by rw [World.cell?_setCell_other _ _ _ _ ne1]; exact hu
  have same1 : ((wr.setCell ⟨g, k * 2, none⟩ (.string x)).setCell ⟨g, k * 2 + 1, none⟩ (.int .i64 z)).drew.cell? ⟨g, k * 2, none⟩ = some (.string x) := by
    rw [World.cell?_drew, World.cell?_setCell_other _ _ _ _ ne1.symm, World.cell?_setCell_same _ _ _ hv]
  have same2 : ((wr.setCell ⟨g, k * 2, none⟩ (.string x)).setCell ⟨g, k * 2 + 1, none⟩ (.int .i64 z)).drew.cell? ⟨g, k * 2 + 1, none⟩ = some (.int .i64 z) := by
    rw [World.cell?_drew, World.cell?_setCell_same _ _ _ hu']
  have other : ∀ j, j ≠ k * 2 → j ≠ k * 2 + 1 → ((wr.setCell ⟨g, k * 2, none⟩ (.string x)).setCell ⟨g, k * 2 + 1, none⟩ (.int .i64 z)).drew.cell? ⟨g, j, none⟩ = wr.cell? ⟨g, j, none⟩ := fun j h1 h2 => by
    rw [World.cell?_drew, World.cell?_setCell_other _ _ _ _ (by intro e; simp at e <;> omega), World.cell?_setCell_other _ _ _ _ (by intro e; simp at e <;> omega)]
  refine ⟨((hB.setCell hbig _).setCell hbig _).drew, hbig, by simpa [World.setCell, World.drew] using hlt, fun j hj => ⟨?_, ?_⟩, fun j y hj hy => ?_⟩
  · by_cases h1 : j = k * 2
    · subst h1; exact ⟨_, same1⟩
    · by_cases h2 : j = k * 2 + 1
      · subst h2; exact ⟨_, same2⟩
      · obtain ⟨⟨t, ht⟩, _⟩ := hroom j hj
        exact ⟨t, by rw [other j h1 h2]; exact ht⟩
  · rw [World.frozen?_drew, World.frozen?_setCell, World.frozen?_setCell]
    exact (hroom j hj).2
  · by_cases hjk : j = k
    · subst hjk
      rw [hx] at hy
      simp only [Option.some.injEq] at hy
      subst hy
      exact ⟨z, same1, same2⟩
    · obtain ⟨q, h1, h2⟩ := hdone j y (by omega) hy
      exact ⟨q, by rw [other _ (by omega) (by omega)]; exact h1, by rw [other _ (by omega) (by omega)]; exact h2⟩

/-- The chain's own block, laid last. -/
theorem chain_end {w w1 wr : World} {n m : Nat} {xs ys : List ByteArray} (hlx : xs.length = n) (hly : ys.length = m) (hn : n ≤ 65536) (hm : m ≤ 65536) (hC : Cols w1 w.heap.size xs) (hB : Below w.heap.size w w1) (hI : Inv2 w1 wr w1.heap.size m m ys) :
    IsChain (wr.alloc (.cells #[.slice (some ⟨w.heap.size, 0, none⟩) n n, .slice (some ⟨w1.heap.size, 0, none⟩) m m] 40)) wr.heap.size xs ys ∧
      Below w.heap.size w (wr.alloc (.cells #[.slice (some ⟨w.heap.size, 0, none⟩) n n, .slice (some ⟨w1.heap.size, 0, none⟩) m m] 40)) := by
  have hb2 : Below wr.heap.size wr (wr.alloc (.cells #[.slice (some ⟨w.heap.size, 0, none⟩) n n, .slice (some ⟨w1.heap.size, 0, none⟩) m m] 40)) := (Below.refl _ _).alloc (Nat.le_refl _) _
  have hs1 := hB.size
  have hs2 := hI.below.size
  have hO : Opers wr w1.heap.size ys := fun j x hx => hI.done j x (by have := (List.getElem?_eq_some_iff.1 hx).1; omega) hx
  subst hlx hly
  refine ⟨⟨w.heap.size, w1.heap.size, xs.length, ys.length, ?_, ?_, (hC.below hI.below).below hb2, hO.below hb2, hn, hm⟩, hB.trans ((hI.below.mono (by omega)).trans (hb2.mono (by omega)))⟩
  · rw [World.cell?_alloc_new]; rfl
  · rw [World.cell?_alloc_new]; rfl

set_option maxRecDepth 100000 in
set_option maxHeartbeats 800000 in
theorem chain_made (ao1 ao2 : Option Addr) (n m c1 c2 c3 c4 g1 g2 : Nat) (xs ys : List ByteArray) (w : World) (h1 : Strs w ao1 n xs) (h2 : Strs w ao2 m ys) (h3 : Ints w g1 n) (h4 : Ints w g2 m) :
    Calls Try.prog 6 #[.slice ao1 n c1, .slice (some ⟨g1, 0, none⟩) n c3, .slice ao2 m c2, .slice (some ⟨g2, 0, none⟩) m c4] w fun e w' => ∃ g, e = .returned (.pointer (some ⟨g, 0, none⟩)) ∧ IsChain w' g xs ys ∧ Below w.heap.size w w' := by
  have hmk1 := make_row (t := 29) Try.underlying29 Try.info34 (by omega) n (by have := h1.small; omega)
  have hmk2 := make_row (t := 35) Try.underlying35 Try.info38 (by omega) m (by have := h2.small; omega)
  have H1 : Hid (Strs w ao1 n xs) := h1
  have H2 : Hid (Strs w ao2 m ys) := h2
  have H3 : Hid (Ints w g1 n) := h3
  have H4 : Hid (Ints w g2 m) := h4
  have s1 := h1.small
  have s2 := h2.small
  clear h1 h2 h3 h4
  go_enter Try.func6, Try.ntmps6
  go_wp2
  go_loopw [10] (fun i wr => ∃ k : Nat, k ≤ n ∧ i = .int .i64 k ∧ Hid (Inv1 w wr w.heap.size n k xs)) (fun i _ => n - (intOf i).toNat)
  case atStart => exact ⟨0, Nat.zero_le _, rfl, Inv1.start w n xs⟩
  case round =>
    obtain ⟨k, hk, rfl, HI⟩ := hrel
    by_cases hlt : k < n
    · obtain ⟨x, hx⟩ : ∃ x, xs[k]? = some x := ⟨_, List.getElem?_eq_getElem (by rw [H1.out.len]; omega)⟩
      obtain ⟨bk, o, hao, hc⟩ := H1.out.at'
      have hao' := hao (by omega)
      subst hao'
      have q1 := cell_below HI.out.below (hc k x hx)
      obtain ⟨z, hz⟩ := H3.out k hlt
      have q2 := cell_below HI.out.below hz
      obtain ⟨⟨v, q3⟩, q4⟩ := HI.out.room k hlt
      have q5 := HI.out.lt
      have HX : Hid (xs[k]? = some x) := hx
      clear hx hao hc hz hmk1 hmk2
      go_wp2
      go_region
      go_wp2
      go_roundw
      case rel => exact ⟨k + 1, by omega, by go_num, HI.out.step hlt HX.out z⟩
      case measure => simp [intOf]; omega
    · obtain rfl : k = n := by omega
      have HC : Hid (Cols wr w.heap.size xs) := fun j x hx => by
        obtain ⟨b, _, h⟩ := HI.out.done j x (by have := (List.getElem?_eq_some_iff.1 hx).1; have := H1.out.len; omega) hx
        exact ⟨b, h⟩
      have HB : Hid (Below w.heap.size w wr) := HI.out.below
      have HS2 : Hid (Strs wr ao2 m ys) := H2.out.below HB.out
      have HI4 : Hid (Ints wr g2 m) := H4.out.below HB.out
      clear HI hmk1 H3 H4 H2
      obtain ⟨w1, hw1⟩ : ∃ w1, w1 = wr := ⟨_, rfl⟩
      subst wr
      go_wp2
      go_loopw [12] (fun i wt => ∃ j : Nat, j ≤ m ∧ i = .int .i64 j ∧ Hid (Inv2 w1 wt w1.heap.size m j ys)) (fun i _ => m - (intOf i).toNat)
      case atStart => exact ⟨0, Nat.zero_le _, rfl, Inv2.start w1 m ys⟩
      case round =>
        obtain ⟨j, hj, rfl, HI⟩ := hrel
        by_cases hlt2 : j < m
        · obtain ⟨x, hx⟩ : ∃ x, ys[j]? = some x := ⟨_, List.getElem?_eq_getElem (by rw [HS2.out.len]; omega)⟩
          obtain ⟨bk, o, hao, hc⟩ := HS2.out.at'
          have hao' := hao (by omega)
          subst hao'
          have q1 := cell_below HI.out.below (hc j x hx)
          obtain ⟨z, hz⟩ := HI4.out j hlt2
          have q2 := cell_below HI.out.below hz
          obtain ⟨⟨v, q3⟩, q4⟩ := HI.out.room (j * 2) (by omega)
          obtain ⟨⟨v', q3'⟩, q4'⟩ := HI.out.room (j * 2 + 1) (by omega)
          have q5 := HI.out.lt
          have HX : Hid (ys[j]? = some x) := hx
          clear hx hao hc hz hmk2
          go_wp2
          go_region
          go_wp2
          go_roundw
          case rel => exact ⟨j + 1, by omega, by go_num, HI.out.step hlt2 HX.out z⟩
          case measure => simp [intOf]; omega
        · obtain rfl : j = m := by omega
          have HE : Hid _ := chain_end H1.out.len HS2.out.len s1 s2 HC.out HB.out HI.out
          go_wp2
          go_ret
          exact ⟨_, rfl, HE.out.1, HE.out.2⟩
end Go.Proofs.Qxb6616771a

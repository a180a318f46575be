import Derived.Test.Qxb6616771aSa
namespace Go.Proofs.Qxb6616771a
open Go.RowKit Go.Sort

/-! ### The plain word: two lists of texts, alike. -/
def eqL (xs ys : List ByteArray) : Bool := xs.map (·.toList) == ys.map (·.toList)

theorem eqL_len {xs ys : List ByteArray} (h : xs.length ≠ ys.length) : eqL xs ys = false := by
  unfold eqL
  rw [beq_eq_false_iff_ne]
  intro e
  have := congrArg List.length e
  simp at this
  exact h this

theorem eqL_at {xs ys : List ByteArray} {k : Nat} {x y : ByteArray} (hx : xs[k]? = some x) (hy : ys[k]? = some y) (h : (x.toList == y.toList) = false) : eqL xs ys = false := by
  unfold eqL
  rw [beq_eq_false_iff_ne] at h ⊢
  intro e
  have := congrArg (·[k]?) e
  simp [hx, hy] at this
  exact h this

theorem eqL_all {xs ys : List ByteArray} (hl : xs.length = ys.length) (h : ∀ (k : Nat) x y, xs[k]? = some x → ys[k]? = some y → (x.toList == y.toList) = true) : eqL xs ys = true := by
  unfold eqL
  rw [beq_iff_eq]
  apply List.ext_getElem?
  intro k
  by_cases hk : k < xs.length
  · have hx := List.getElem?_eq_getElem hk
    have hy := List.getElem?_eq_getElem (l := ys) (i := k) (by omega)
    have := h k _ _ hx hy
    rw [beq_iff_eq] at this
    simp [hx, hy, this]
  · simp [List.getElem?_eq_none (l := xs) (i := k) (by omega), List.getElem?_eq_none (l := ys) (i := k) (by omega)]

/-! ### What lies in memory -/
/-- A row of column references: place k leads to one that bears the name xs[k]. -/
def Cols (w : World) (g : Nat) (xs : List ByteArray) : Prop :=
  ∀ (k : Nat) x, xs[k]? = some x → ∃ b, w.cell? ⟨g, k, none⟩ = some (.iface 30 (.pointer (some ⟨b, 0, none⟩))) ∧ w.cell? ⟨b, 0, none⟩ = some (.string x)
/-- A row of operators, two cells each. -/
def Opers (w : World) (g : Nat) (xs : List ByteArray) : Prop :=
  ∀ (k : Nat) x, xs[k]? = some x → ∃ p : Int, w.cell? ⟨g, k * 2, none⟩ = some (.string x) ∧ w.cell? ⟨g, k * 2 + 1, none⟩ = some (.int .i64 p)

theorem cell_below {w w' : World} (hb : Below w.heap.size w w') {a : Addr} {v : Value} (h : w.cell? a = some v) : w'.cell? a = some v := by
  rw [hb.cell (block_lt_of_cell h)]; exact h

theorem Cols.below {w w' : World} {g : Nat} {xs : List ByteArray} (h : Cols w g xs) (hb : Below w.heap.size w w') : Cols w' g xs := fun k x hx => by
  obtain ⟨b, h1, h2⟩ := h k x hx
  exact ⟨b, cell_below hb h1, cell_below hb h2⟩
theorem Opers.below {w w' : World} {g : Nat} {xs : List ByteArray} (h : Opers w g xs) (hb : Below w.heap.size w w') : Opers w' g xs := fun k x hx => by
  obtain ⟨p, h1, h2⟩ := h k x hx
  exact ⟨p, cell_below hb h1, cell_below hb h2⟩

set_option maxRecDepth 100000 in
set_option maxHeartbeats 800000 in
theorem cols_equal (g1 g2 n1 n2 c1 c2 : Nat) (xs ys : List ByteArray) (w : World) (h1 : Cols w g1 xs) (h2 : Cols w g2 ys) (hn1 : xs.length = n1) (hn2 : ys.length = n2) (hs1 : n1 ≤ 65536) (hs2 : n2 ≤ 65536) :
    Calls Try.prog 11 #[.slice (some ⟨g1, 0, none⟩) n1 c1, .slice (some ⟨g2, 0, none⟩) n2 c2, .func (.func 8) #[] #[]] w fun e w' => e = .returned (.bool (eqL xs ys)) ∧ Below w.heap.size w w' := by
  by_cases hl : n1 = n2
  case neg =>
    rw [eqL_len (by omega)]
    have hne : ((n1 : Int) == n2) = false := by simp; omega
    have hne' : ((n1 : Int) != n2) = true := by simp; omega
    clear h1 h2 hn1 hn2 hl
    go_enter Try.func11, Try.ntmps11
    go_wp2
    go_ret
    exact ⟨rfl, Below.refl _ _⟩
  subst hl
  have H1 : Hid (Cols w g1 xs) := h1
  have H2 : Hid (Cols w g2 ys) := h2
  have N1 : Hid (xs.length = n1) := hn1
  have N2 : Hid (ys.length = n1) := hn2
  clear h1 h2 hn1 hn2 hs2
  go_enter Try.func11, Try.ntmps11
  go_wp2
  go_loopw [17] (fun i wr => ∃ k : Nat, k ≤ n1 ∧ i = .int .i64 k ∧ Hid (Below w.heap.size w wr) ∧ Hid (∀ (j : Nat) x y, j < k → xs[j]? = some x → ys[j]? = some y → (x.toList == y.toList) = true)) (fun i _ => n1 - (intOf i).toNat)
  case atStart => exact ⟨0, Nat.zero_le _, rfl, Below.refl _ _, fun j x y h => absurd h (by omega)⟩
  case round =>
    obtain ⟨k, hk, rfl, HB, HA⟩ := hrel
    by_cases hlt : k < n1
    · obtain ⟨x, hx⟩ : ∃ x, xs[k]? = some x := ⟨_, List.getElem?_eq_getElem (by rw [N1.out]; omega)⟩
      obtain ⟨y, hy⟩ : ∃ y, ys[k]? = some y := ⟨_, List.getElem?_eq_getElem (by rw [N2.out]; omega)⟩
      obtain ⟨b1, q1, q2⟩ := H1.out k x hx
      obtain ⟨b2, q3, q4⟩ := H2.out k y hy
      have r1 := cell_below HB.out q1
      have r2 := cell_below HB.out q2
      have r3 := cell_below HB.out q3
      have r4 := cell_below HB.out q4
      have HX : Hid (xs[k]? = some x) := hx
      have HY : Hid (ys[k]? = some y) := hy
      clear q1 q2 q3 q4 hx hy
      go_wp2_with fail
      refine (col_same b1 b2 x y wr r2 r4).mono ?_
      rintro e w1 ⟨rfl, hb1⟩
      have hsz := HB.out.size
      cases hxy : (x.toList == y.toList) with
      | false =>
        go_wp2
        go_ret
        exact ⟨by rw [eqL_at HX.out HY.out hxy]; rfl, HB.out.trans (hb1.mono hsz)⟩
      | true =>
        go_wp2
        go_roundw
        case rel =>
          refine ⟨k + 1, by omega, by go_num, HB.out.trans (hb1.mono hsz), fun j u v hj hu hv => ?_⟩
          by_cases hjk : j < k
          · exact HA.out j u v hjk hu hv
          · obtain rfl : j = k := by omega
            rw [HX.out] at hu
            rw [HY.out] at hv
            simp only [Option.some.injEq] at hu hv
            subst hu hv
            exact hxy
        case measure => simp [intOf]; omega
    · go_wp2
      go_ret
      refine ⟨?_, HB.out⟩
      rw [eqL_all (by rw [N1.out, N2.out]) (fun j u v hu hv => HA.out j u v (by have := (List.getElem?_eq_some_iff.1 hu).1; have := N1.out; omega) hu hv)]
      rfl

set_option maxRecDepth 100000 in
set_option maxHeartbeats 800000 in
theorem opers_equal (g1 g2 n1 n2 c1 c2 : Nat) (xs ys : List ByteArray) (w : World) (h1 : Opers w g1 xs) (h2 : Opers w g2 ys) (hn1 : xs.length = n1) (hn2 : ys.length = n2) (hs1 : n1 ≤ 65536) (hs2 : n2 ≤ 65536) :
    Calls Try.prog 9 #[.slice (some ⟨g1, 0, none⟩) n1 c1, .slice (some ⟨g2, 0, none⟩) n2 c2, .func (.func 10) #[] #[]] w fun e w' => e = .returned (.bool (eqL xs ys)) ∧ Below w.heap.size w w' := by
  by_cases hl : n1 = n2
  case neg =>
    rw [eqL_len (by omega)]
    have hne : ((n1 : Int) == n2) = false := by simp; omega
    have hne' : ((n1 : Int) != n2) = true := by simp; omega
    clear h1 h2 hn1 hn2 hl
    go_enter Try.func9, Try.ntmps9
    go_wp2
    go_ret
    exact ⟨rfl, Below.refl _ _⟩
  subst hl
  have H1 : Hid (Opers w g1 xs) := h1
  have H2 : Hid (Opers w g2 ys) := h2
  have N1 : Hid (xs.length = n1) := hn1
  have N2 : Hid (ys.length = n1) := hn2
  clear h1 h2 hn1 hn2 hs2
  go_enter Try.func9, Try.ntmps9
  go_wp2
  go_loopw [17] (fun i wr => ∃ k : Nat, k ≤ n1 ∧ i = .int .i64 k ∧ Hid (Below w.heap.size w wr) ∧ Hid (∀ (j : Nat) x y, j < k → xs[j]? = some x → ys[j]? = some y → (x.toList == y.toList) = true)) (fun i _ => n1 - (intOf i).toNat)
  case atStart => exact ⟨0, Nat.zero_le _, rfl, Below.refl _ _, fun j x y h => absurd h (by omega)⟩
  case round =>
    obtain ⟨k, hk, rfl, HB, HA⟩ := hrel
    by_cases hlt : k < n1
    · obtain ⟨x, hx⟩ : ∃ x, xs[k]? = some x := ⟨_, List.getElem?_eq_getElem (by rw [N1.out]; omega)⟩
      obtain ⟨y, hy⟩ : ∃ y, ys[k]? = some y := ⟨_, List.getElem?_eq_getElem (by rw [N2.out]; omega)⟩
      obtain ⟨p1, q1, q2⟩ := H1.out k x hx
      obtain ⟨p2, q3, q4⟩ := H2.out k y hy
      have r1 := cell_below HB.out q1
      have r2 := cell_below HB.out q2
      have r3 := cell_below HB.out q3
      have r4 := cell_below HB.out q4
      have HX : Hid (xs[k]? = some x) := hx
      have HY : Hid (ys[k]? = some y) := hy
      have r5 := fun ob => cell_below ((Below.refl wr.heap.size wr).alloc (Nat.le_refl _) ob) r3
      have r6 := fun ob => cell_below ((Below.refl wr.heap.size wr).alloc (Nat.le_refl _) ob) r4
      clear q1 q2 q3 q4 hx hy r3 r4
      go_wp2_with fail
      refine (op_same x y p1 p2 _).mono ?_
      rintro e w1 ⟨rfl, hb1⟩
      have hsz := HB.out.size
      have hb2 : Below wr.heap.size wr w1 := (((Below.refl wr.heap.size wr).alloc (Nat.le_refl _) _).alloc (by simp) _).trans (hb1.mono (by simp; omega))
      clear hb1
      cases hxy : (x.toList == y.toList) with
      | false =>
        go_wp2
        go_ret
        exact ⟨by rw [eqL_at HX.out HY.out hxy]; rfl, HB.out.trans (hb2.mono hsz)⟩
      | true =>
        go_wp2
        go_roundw
        case rel =>
          refine ⟨k + 1, by omega, by go_num, HB.out.trans (hb2.mono hsz), fun j u v hj hu hv => ?_⟩
          by_cases hjk : j < k
          · exact HA.out j u v hjk hu hv
          · obtain rfl : j = k := by omega
            rw [HX.out] at hu
            rw [HY.out] at hv
            simp only [Option.some.injEq] at hu hv
            subst hu hv
            exact hxy
        case measure => simp [intOf]; omega
    · go_wp2
      go_ret
      refine ⟨?_, HB.out⟩
      rw [eqL_all (by rw [N1.out, N2.out]) (fun j u v hu hv => HA.out j u v (by have := (List.getElem?_eq_some_iff.1 hu).1; have := N1.out; omega) hu hv)]
      rfl
end Go.Proofs.Qxb6616771a

import Derived.Test.Qxb6616771aSe
namespace Go.Proofs.Qxb6616771a
open Go.RowKit Go.Sort

/-! ### Rows of the call's own, while they are filled -/
/-- A row of ints. -/
structure IInv (v wr : World) (g n : Nat) : Prop where
  below : Below v.heap.size v wr
  big : v.heap.size ≤ g
  lt : g < wr.heap.size
  row : ∀ j, j < n → (∃ z : Int, wr.cell? ⟨g, j, none⟩ = some (.int .i64 z)) ∧ wr.frozen? ⟨g, j, none⟩ = false

theorem blank_int (n j : Nat) (h : j < n) : (blank (.int .i64 0) n)[j]? = some (.int .i64 0) := by
  rw [Array.getElem?_eq_getElem (by rw [size_blank]; exact h)]
  simp [blank, madeCells, Value.cells, Nat.mod_one]
theorem blank_str (n j : Nat) (h : j < n) : (blank (.string ⟨#[]⟩) n)[j]? = some (.string ⟨#[]⟩) := by
  rw [Array.getElem?_eq_getElem (by rw [size_blank]; exact h)]
  simp [blank, madeCells, Value.cells, Nat.mod_one]

theorem IInv.first (v : World) (n : Nat) : IInv v ((v.alloc (.cells (blank (.int .i64 0) n) 3)).alloc (.cells (blank (.int .i64 0) n) 3)) v.heap.size n where
  below := ((Below.refl _ _).alloc (Nat.le_refl _) _).alloc (by simp) _
  big := Nat.le_refl _
  lt := by simp; omega
  row := fun j hj => by
    refine ⟨⟨0, ?_⟩, ?_⟩
    · rw [cell_alloc _ _ _ _ (by simp), World.cell?_alloc_new, blank_int n j hj]
    · rw [World.frozen?_alloc_past _ _ _ (by simp), World.frozen?_alloc_new]
theorem IInv.second (v : World) (n : Nat) : IInv v ((v.alloc (.cells (blank (.int .i64 0) n) 3)).alloc (.cells (blank (.int .i64 0) n) 3)) (v.heap.size + 1) n where
  below := ((Below.refl _ _).alloc (Nat.le_refl _) _).alloc (by simp) _
  big := by omega
  lt := by simp
  row := fun j hj => by
    have e : v.heap.size + 1 = (v.alloc (.cells (blank (.int .i64 0) n) 3)).heap.size := by simp
    rw [e]
    exact ⟨⟨0, by rw [World.cell?_alloc_new, blank_int n j hj]⟩, by rw [World.frozen?_alloc_new]⟩

theorem IInv.set {v wr : World} {g n : Nat} (h : IInv v wr g n) {b k : Nat} (hb : v.heap.size ≤ b) {old : Value} (ho : wr.cell? ⟨b, k, none⟩ = some old) (z : Int) : IInv v (wr.setCell ⟨b, k, none⟩ (.int .i64 z)) g n := by
  obtain ⟨h1, h2, h3, h4⟩ := h
  refine ⟨h1.setCell hb _, h2, by simpa [World.setCell] using h3, fun j hj => ⟨?_, by rw [World.frozen?_setCell]; exact (h4 j hj).2⟩⟩
  by_cases e : (⟨b, k, none⟩ : Addr) = ⟨g, j, none⟩
  · rw [← e, World.cell?_setCell_same _ _ _ ho]; exact ⟨z, rfl⟩
  · rw [World.cell?_setCell_other _ _ _ _ e]; exact (h4 j hj).1

theorem IInv.ints {v wr : World} {g n : Nat} (h : IInv v wr g n) : Ints wr g n := fun j hj => (h.row j hj).1

/-- A row of strings, copied one by one. -/
structure SInv (v wr : World) (g n k : Nat) (xs : List ByteArray) : Prop where
  below : Below v.heap.size v wr
  big : v.heap.size ≤ g
  lt : g < wr.heap.size
  row : ∀ j, j < n → (∃ s, wr.cell? ⟨g, j, none⟩ = some (.string s)) ∧ wr.frozen? ⟨g, j, none⟩ = false
  done : ∀ (j : Nat) x, j < k → xs[j]? = some x → wr.cell? ⟨g, j, none⟩ = some (.string x)

theorem SInv.start (v : World) (n : Nat) (xs : List ByteArray) : SInv v (v.alloc (.cells (blank (.string ⟨#[]⟩) n) 9)) v.heap.size n 0 xs where
  below := (Below.refl _ _).alloc (Nat.le_refl _) _
  big := Nat.le_refl _
  lt := by simp
  row := fun j hj => ⟨⟨⟨#[]⟩, by rw [World.cell?_alloc_new, blank_str n j hj]⟩, by rw [World.frozen?_alloc_new]⟩
  done := fun j x h => absurd h (by omega)

theorem SInv.step {v wr : World} {g n k : Nat} {xs : List ByteArray} (h : SInv v wr g n k xs) (hk : k < n) {x : ByteArray} (hx : xs[k]? = some x) : SInv v (wr.setCell ⟨g, k, none⟩ (.string x)) g n (k + 1) xs := by
  obtain ⟨h1, h2, h3, h4, h5⟩ := h
  obtain ⟨⟨s, hs⟩, _⟩ := h4 k hk
  refine ⟨h1.setCell h2 _, h2, by simpa [World.setCell] using h3, fun j hj => ⟨?_, by rw [World.frozen?_setCell]; exact (h4 j hj).2⟩, fun j y hj hy => ?_⟩
  · by_cases e : j = k
    · subst e; rw [World.cell?_setCell_same _ _ _ hs]; exact ⟨x, rfl⟩
    · rw [World.cell?_setCell_other _ _ _ _ (by intro q; simp at q <;> omega)]; exact (h4 j hj).1
  · by_cases e : j = k
    · subst e
      rw [hx] at hy
      simp only [Option.some.injEq] at hy
      subst hy
      rw [World.cell?_setCell_same _ _ _ hs]
    · rw [World.cell?_setCell_other _ _ _ _ (by intro q; simp at q <;> omega)]; exact h5 j y (by omega) hy

/-- The last store: one place holds another text. -/
theorem SInv.put {v wr : World} {g n : Nat} {xs : List ByteArray} (h : SInv v wr g n n xs) (hl : xs.length = n) (hn : n ≤ 65536) {k : Nat} (hk : k < n) (ot : ByteArray) :
    Strs (wr.setCell ⟨g, k, none⟩ (.string ot)) (some ⟨g, 0, none⟩) n (xs.set k ot) ∧ Below v.heap.size v (wr.setCell ⟨g, k, none⟩ (.string ot)) := by
  obtain ⟨h1, h2, h3, h4, h5⟩ := h
  obtain ⟨⟨s, hs⟩, _⟩ := h4 k hk
  refine ⟨⟨by simpa using hl, hn, g, 0, fun _ => rfl, fun j y hy => ?_⟩, h1.setCell h2 _⟩
  rw [Nat.zero_add]
  have hj : j < n := by have := (List.getElem?_eq_some_iff.1 hy).1; simp at this; omega
  by_cases e : j = k
  · subst e
    rw [List.getElem?_set_self (by omega)] at hy
    simp only [Option.some.injEq] at hy
    subst hy
    rw [World.cell?_setCell_same _ _ _ hs]
  · rw [List.getElem?_set_ne (by omega)] at hy
    rw [World.cell?_setCell_other _ _ _ _ (by intro q; simp at q <;> omega)]; exact h5 j y hj hy

/-! ### Plain laws on 'eqL' -/
theorem eqL_refl (xs : List ByteArray) : eqL xs xs = true := by simp [eqL]
theorem eqL_set {xs : List ByteArray} {k : Nat} {x ot : ByteArray} (hx : xs[k]? = some x) : eqL xs (xs.set k ot) = (ot.toList == x.toList) ∧ eqL (xs.set k ot) xs = (ot.toList == x.toList) := by
  have hk : k < xs.length := (List.getElem?_eq_some_iff.1 hx).1
  have hs : (xs.set k ot)[k]? = some ot := List.getElem?_set_self hk
  cases h : (ot.toList == x.toList) with
  | false =>
    have h' : (x.toList == ot.toList) = false := by rw [beq_eq_false_iff_ne] at h ⊢; exact fun e => h e.symm
    exact ⟨eqL_at hx hs h', eqL_at hs hx h⟩
  | true =>
    rw [beq_iff_eq] at h
    have e : (xs.set k ot).map (·.toList) = xs.map (·.toList) := by
      apply List.ext_getElem?
      intro i
      by_cases hi : i = k
      · subst hi; rw [List.getElem?_map, List.getElem?_map, hs, hx]; simp [h]
      · simp [List.getElem?_set_ne (Ne.symm hi)]
    simp [eqL, e]
theorem eqL_drop {xs : List ByteArray} {n : Nat} (hl : xs.length = n) (hn : 0 < n) : eqL xs (xs.take (n - 1)) = false ∧ eqL (xs.take (n - 1)) xs = false :=
  ⟨eqL_len (by simp; omega), eqL_len (by simp; omega)⟩

/-- 'copy' from a slice that came in onto a new row of the same length: the row then holds its cells; of what was there nothing has turned. -/
theorem copied {P : Program} (w : World) (T E ty : TypeId) (a : Addr) (n c : Nat) (zs : Array Value) (cs : List Value) (hu : P.underlying T = some (.slice E)) (hs : (P.info? E).map (·.size) = some 1)
    (hz : zs.size = n) (hl : cs.length = n) (hsrc : ∀ j v, cs[j]? = some v → w.cell? (a.add j) = some v) (h1 : ∀ v ∈ cs, v.oneCell' = true) :
    ∃ W, (Builtin.copy_ #[T, T] ty #[.slice (some ⟨w.heap.size, 0, none⟩) n n, .slice (some a) n c]).run P (w.alloc (.cells zs E)) = .ok (.int .i64 n) W ∧
      W.heap[w.heap.size]? = some (.cells cs.toArray E (0, 0)) ∧ Below w.heap.size w W := by
  have hb : Below w.heap.size w (w.alloc (.cells zs E)) := (Below.refl _ _).alloc (Nat.le_refl _) _
  have hg : (w.alloc (.cells zs E)).heap[w.heap.size]? = some (.cells zs E (0, 0)) := heap_alloc_new w _
  have hsrc' : ∀ j v, cs[j]? = some v → (w.alloc (.cells zs E)).cell? (a.add j) = some v := fun j v hj => by
    have := hsrc j v hj
    rw [hb.cell (block_lt_of_cell this)]; exact this
  have hrun := run_copy_row (P := P) (w.alloc (.cells zs E)) T T ty E w.heap.size 0 n n a n c zs E cs hu hs hg (by simpa using hl) hsrc' (by omega) h1
  refine ⟨_, by rw [hrun, hl]; rfl, ?_, below_setRow hb (Nat.le_refl _) _⟩
  have e : zs.toList.take 0 ++ cs ++ zs.toList.drop (0 + n) = cs := by
    rw [List.drop_eq_nil_of_le (by simp; omega)]; simp
  rw [e]
  exact setRow_heap (w.alloc (.cells zs E)) w.heap.size zs cs.toArray E (0, 0) hg

theorem SW.copied {w : World} {a : Addr} {n : Nat} {xs : List ByteArray} (h : SW w (some a) n xs) (c : Nat) :
    ∃ W, (Builtin.copy_ #[22, 22] 3 #[.slice (some ⟨w.heap.size, 0, none⟩) n n, .slice (some a) n c]).run Try.prog (w.alloc (.cells (blank (.string ⟨#[]⟩) n) 9)) = .ok (.int .i64 n) W ∧
      SW W (some ⟨w.heap.size, 0, none⟩) n xs ∧ Below w.heap.size w W := by
  obtain ⟨rfl, hl, ⟨bk, o, hao, hc⟩, hs⟩ := h
  obtain ⟨W, h1, h2, h3⟩ := Qxb6616771a.copied (P := Try.prog) w 22 9 3 a xs.length c (blank (.string ⟨#[]⟩) xs.length) (xs.map Value.string) Try.underlying22 Try.size9 (size_blank _ _) (by simp)
    (fun j v hj => by
      have hlt : j < xs.length := by have := (List.getElem?_eq_some_iff.1 hj).1; simpa using this
      have ha := hao (by omega)
      simp only [Option.some.injEq] at ha
      subst ha
      rw [List.getElem?_map] at hj
      cases hx : xs[j]? with
      | none => rw [hx] at hj; simp at hj
      | some x => rw [hx] at hj; simp at hj; subst hj; show w.cell? ((⟨bk, o, .none⟩ : Addr).add j) = _; rw [WideShapes.add_plain]; exact hc j x hx)
    (fun v hv => by simp at hv; obtain ⟨x, _, rfl⟩ := hv; rfl)
  refine ⟨W, h1, ⟨rfl, hl, ⟨w.heap.size, 0, fun _ => rfl, fun j x hx => ?_⟩, hs⟩, h3⟩
  rw [Nat.zero_add]
  simp [World.cell?, h2, hx]

/-- All that the law's rest reads. -/
structure St (w wr : World) (ao1 ao2 : Option Addr) (n m pa pb qa qb : Nat) (xs ys : List ByteArray) : Prop where
  names : SW wr ao1 n xs
  ops : SW wr ao2 m ys
  p1 : Ints wr pa n
  p2 : Ints wr pb n
  q1 : Ints wr qa m
  q2 : Ints wr qb m
  below : Below w.heap.size w wr

theorem St.later {w wr wt : World} {ao1 ao2 : Option Addr} {n m pa pb qa qb : Nat} {xs ys : List ByteArray} (h : St w wr ao1 ao2 n m pa pb qa qb xs ys) (hb : Below wr.heap.size wr wt) : St w wt ao1 ao2 n m pa pb qa qb xs ys :=
  ⟨h.names.below hb, h.ops.below hb, h.p1.below hb, h.p2.below hb, h.q1.below hb, h.q2.below hb, h.below.trans (hb.mono h.below.size)⟩

/-- .. and the two chains. -/
structure Two (w wr : World) (ao1 ao2 : Option Addr) (n m pa pb qa qb ga gb : Nat) (xs ys : List ByteArray) : Prop where
  st : St w wr ao1 ao2 n m pa pb qa qb xs ys
  a : IsChain wr ga xs ys
  b : IsChain wr gb xs ys

theorem Two.later {w wr wt : World} {ao1 ao2 : Option Addr} {n m pa pb qa qb ga gb : Nat} {xs ys : List ByteArray} (h : Two w wr ao1 ao2 n m pa pb qa qb ga gb xs ys) (hb : Below wr.heap.size wr wt) : Two w wt ao1 ao2 n m pa pb qa qb ga gb xs ys :=
  ⟨h.st.later hb, h.a.below hb, h.b.below hb⟩

theorem same_yes {wr : World} {ga gb : Nat} {xs ys : List ByteArray} (ha : IsChain wr ga xs ys) (hb : IsChain wr gb xs ys) :
    Calls Try.prog 7 #[.pointer (some ⟨ga, 0, none⟩), .pointer (some ⟨gb, 0, none⟩)] wr fun e w' => e = .returned (.bool true) ∧ Below wr.heap.size wr w' := by
  have := same_chains ga gb xs ys xs ys wr ha hb
  rwa [eqL_refl, eqL_refl] at this
theorem same_is {wr : World} {ga gb : Nat} {x1 y1 x2 y2 : List ByteArray} (r : Bool) (ha : IsChain wr ga x1 y1) (hb : IsChain wr gb x2 y2) (h : (eqL y1 y2 && eqL x1 x2) = r) :
    Calls Try.prog 7 #[.pointer (some ⟨ga, 0, none⟩), .pointer (some ⟨gb, 0, none⟩)] wr fun e w' => e = .returned (.bool r) ∧ Below wr.heap.size wr w' := by
  have := same_chains ga gb x1 y1 x2 y2 wr ha hb
  rwa [h] at this

/-- Is a place of the row meant? -/
def inR (a : Int) (n : Nat) : Bool := decide (0 ≤ a ∧ a < n)

theorem Strs.take {w : World} {ao : Option Addr} {n : Nat} {xs : List ByteArray} (h : Strs w ao n xs) (k : Nat) (hk : k ≤ n) : Strs w ao k (xs.take k) := by
  obtain ⟨h1, h2, bk, o, h3, h4⟩ := h
  refine ⟨by simp; omega, by omega, bk, o, fun h => h3 (by omega), fun j x hx => h4 j x ?_⟩
  have hj := (List.getElem?_eq_some_iff.1 hx).1
  rw [List.length_take] at hj
  rwa [List.getElem?_take_of_lt (by omega)] at hx
theorem Ints.less {w : World} {g n k : Nat} (h : Ints w g n) (hk : k ≤ n) : Ints w g k := fun j hj => h j (by omega)
end Go.Proofs.Qxb6616771a

import Derived.Test.Qxb6616845aFd
import Derived.Laws.CopyOwn
import Derived.Deep.DeepCutAuto
namespace Go.Proofs.Qxb6616845a
open Go.RowKit Go.Sort

/-- Some bool comes back. -/
def IsBool (e : Ending) : Prop := ∃ b : Bool, e = .returned (.bool b)

/-- What is told of a slice of bools. -/
structure BW (w : World) (ao : Option Addr) (n : Nat) (bs : List Bool) : Prop where
  len : bs.length = n
  small : n ≤ 9223372036854775807
  at' : 0 < n → ∃ g o, ao = some ⟨g, o, none⟩ ∧ ∀ (j : Nat) b, bs[j]? = some b → w.cell? ⟨g, o + j, none⟩ = some (.bool b)

theorem BW.below {w w' : World} {ao : Option Addr} {n : Nat} {bs : List Bool} (h : BW w ao n bs) (hb : Below w.heap.size w w') : BW w' ao n bs := by
  obtain ⟨h1, h2, h3⟩ := h
  refine ⟨h1, h2, fun hn => ?_⟩
  obtain ⟨g, o, e, h4⟩ := h3 hn
  exact ⟨g, o, e, fun j b hj => cell_below hb (h4 j b hj)⟩

theorem BW.nil {w : World} {n : Nat} {bs : List Bool} (h : BW w none n bs) : n = 0 := by
  obtain ⟨_, _, h3⟩ := h
  by_cases hn : 0 < n
  · obtain ⟨g, o, e, _⟩ := h3 hn; cases e
  · omega

theorem Try.info4 : (Try.prog.info? 4).map (fun i => (i.zero, i.size, i.bytes)) = some (some (.bool false), 1, 1) := by kernel_rfl
theorem Try.size4 : (Try.prog.info? 4).map (·.size) = some 1 := by kernel_rfl

def blank (z : Value) (n : Nat) : Array Value := madeCells z.cells n
theorem size_blank (z : Value) (n : Nat) : (blank z n).size = n := by simp [blank, size_madeCells]

theorem make_bools (n : Nat) (hn : n ≤ 1048576) (w : World) :
    (Instr.makeSlice 22 (.int .i64 n) (.int .i64 n)).run Try.prog w = .ok (.slice (some ⟨w.heap.size, 0, none⟩) n n) (w.alloc (.cells (blank (.bool false) n) 4)) := by
  obtain ⟨i, hi, hz, hs, hb⟩ := info_parts Try.info4
  have h := run_make (P := Try.prog) w 22 4 i (.bool false) Try.underlying22 hi hz .i64 .i64 n n (by omega) (by omega) (by rw [hb]; omega) (by omega)
  rw [h, hs]
  simp [blank]

/-- 'copy' from a slice that came in onto a new row of the same length: the row then holds its cells; of what was there nothing has turned. -/
theorem copied {P : Program} (w : World) (T E ty : TypeId) (a : Addr) (n c : Nat) (zs : Array Value) (cs : List Value) (hu : P.underlying T = some (.slice E)) (hs : (P.info? E).map (·.size) = some 1)
    (hz : zs.size = n) (hl : cs.length = n) (hsrc : ∀ j v, cs[j]? = some v → w.cell? (a.add j) = some v) (h1 : ∀ v ∈ cs, v.oneCell' = true) :
    ∃ W, (Builtin.copy_ #[T, T] ty #[.slice (some ⟨w.heap.size, 0, none⟩) n n, .slice (some a) n c]).run P (w.alloc (.cells zs E)) = .ok (.int .i64 n) W ∧
      W.heap[w.heap.size]? = some (.cells cs.toArray E (0, 0)) ∧ Below w.heap.size w W := by
  have hb : Below w.heap.size w (w.alloc (.cells zs E)) := (Below.refl _ _).alloc (Nat.le_refl _) _
  have hg : (w.alloc (.cells zs E)).heap[w.heap.size]? = some (.cells zs E (0, 0)) := heap_alloc_new w _
  have hsrc' : ∀ j v, cs[j]? = some v → (w.alloc (.cells zs E)).cell? (a.add j) = some v := fun j v hj => by
    have := hsrc j v hj
    rw [hb.cell (block_lt_of_cell this)]; exact this
  have hrun := run_copy_row (P := P) (w.alloc (.cells zs E)) T T ty E w.heap.size 0 n n a n c zs E cs hu hs hg (by simpa using hl) hsrc' (by omega) h1
  refine ⟨_, by rw [hrun, hl]; rfl, ?_, below_setRow hb (Nat.le_refl _) _⟩
  have e : zs.toList.take 0 ++ cs ++ zs.toList.drop (0 + n) = cs := by
    rw [List.drop_eq_nil_of_le (by simp; omega)]; simp
  rw [e]
  exact setRow_heap (w.alloc (.cells zs E)) w.heap.size zs cs.toArray E (0, 0) hg

theorem BW.copied {w : World} {a : Addr} {n : Nat} {bs : List Bool} (h : BW w (some a) n bs) (c : Nat) :
    ∃ W, (Builtin.copy_ #[22, 22] 3 #[.slice (some ⟨w.heap.size, 0, none⟩) n n, .slice (some a) n c]).run Try.prog (w.alloc (.cells (blank (.bool false) n) 4)) = .ok (.int .i64 n) W ∧
      BW W (some ⟨w.heap.size, 0, none⟩) n bs ∧ Below w.heap.size w W := by
  obtain ⟨rfl, hl, hat⟩ := h
  obtain ⟨W, h1, h2, h3⟩ := Qxb6616845a.copied (P := Try.prog) w 22 4 3 a bs.length c (blank (.bool false) bs.length) (bs.map Value.bool) Try.underlying22 Try.size4 (size_blank _ _) (by simp)
    (fun j v hj => by
      have hlt : j < bs.length := by have := (List.getElem?_eq_some_iff.1 hj).1; simpa using this
      obtain ⟨g, o, ha, hc⟩ := hat (by omega)
      simp only [Option.some.injEq] at ha
      subst ha
      rw [List.getElem?_map] at hj
      cases hx : bs[j]? with
      | none => rw [hx] at hj; simp at hj
      | some x => rw [hx] at hj; simp at hj; subst hj; show w.cell? ((⟨g, o, .none⟩ : Addr).add j) = _; rw [WideShapes.add_plain]; exact hc j x hx)
    (fun v hv => by simp at hv; rcases hv with ⟨_, rfl⟩ | ⟨_, rfl⟩ <;> rfl)
  refine ⟨W, h1, ⟨rfl, hl, fun _ => ⟨w.heap.size, 0, rfl, fun j x hx => ?_⟩⟩, h3⟩
  rw [Nat.zero_add]
  simp [World.cell?, h2, hx]

/-- The start of the search. -/
def lowerOf (nm : Int) (n : Nat) : Nat := if 1 ≤ nm ∧ nm ≤ n then nm.toNat else 1

set_option maxRecDepth 100000 in
set_option maxHeartbeats 400000 in
/-- ZZfaultLine. -/
theorem zz_any (nm : Int) (ao : Option Addr) (n c : Nat) (bs : List Bool) (w : World) (h : BW w ao n bs) (hn : n ≤ 65536) :
    Calls Try.prog 6 #[.int .i64 n, .int .i64 nm, .slice ao n c] w fun e w' => (∃ r : Nat, e = .returned (.int .i64 r) ∧ Good (lowerOf nm n) n bs r) ∧ Below w.heap.size w w' := by
  have hb0 : Below w.heap.size w (w.alloc (.cells #[.slice ao n c] 22)) := (Below.refl _ _).alloc (Nat.le_refl _) _
  have hT : Tab (w.alloc (.cells #[.slice ao n c] 22)) w.heap.size n bs := ⟨h.len, hn, ao, c, by simp, (h.below hb0).at'⟩
  have H8 : Calls Try.prog 8 #[.int .i64 n, .int .i64 nm, .func (.func 9) #[] #[.pointer (some ⟨w.heap.size, 0, none⟩)]] (w.alloc (.cells #[.slice ao n c] 22)) fun e w' =>
      (∃ r : Nat, e = .returned (.int .i64 r) ∧ Good (lowerOf nm n) n bs r) ∧ Below (w.alloc (.cells #[.slice ao n c] 22)).heap.size (w.alloc (.cells #[.slice ao n c] 22)) w' := by
    unfold lowerOf
    by_cases hi : 1 ≤ nm ∧ nm ≤ n
    · rw [if_pos hi]
      obtain ⟨k, rfl⟩ := Int.eq_ofNat_of_zero_le (show 0 ≤ nm by omega)
      rw [Int.toNat_natCast]
      exact fault_in n w.heap.size k bs _ hT (by omega) (by omega)
    · rw [if_neg hi]
      exact fault_out n w.heap.size nm bs _ hT (by omega)
  clear hT h
  generalize lowerOf nm n = lo at *
  go_enter Try.func6, Try.ntmps6
  go_wp2_with fail
  refine H8.mono ?_
  rintro e w1 ⟨⟨r, rfl, hg⟩, hb1⟩
  have HG : Hid (Good lo n bs r) := hg
  clear hg
  go_wp2
  go_ret
  exact ⟨⟨r, rfl, HG.out⟩, hb0.trans (hb1.mono (by simp))⟩

set_option maxHeartbeats 400000 in
theorem bytes5 (nm : Int) (ao : Option Addr) (n c : Nat) (w : World) (hn : n ≤ 9223372036854775807) :
    Calls Try.prog 5 #[.int .i64 nm, .slice ao n c] w fun e w' => IsBool e ∧ w' = w := by
  by_cases h : 1048576 < n
  all_goals
    go_enter Try.func5, Try.ntmps5
    go_wp2
    go_ret
    exact ⟨⟨_, rfl⟩, rfl⟩
set_option maxHeartbeats 400000 in
theorem bytes7 (nm : Int) (ao : Option Addr) (n c : Nat) (w : World) (hn : n ≤ 9223372036854775807) :
    Calls Try.prog 7 #[.int .i64 nm, .slice ao n c] w fun e w' => IsBool e ∧ w' = w := by
  by_cases h : 1048576 < n
  all_goals
    go_enter Try.func7, Try.ntmps7
    go_wp2
    go_ret
    exact ⟨⟨_, rfl⟩, rfl⟩
end Go.Proofs.Qxb6616845a

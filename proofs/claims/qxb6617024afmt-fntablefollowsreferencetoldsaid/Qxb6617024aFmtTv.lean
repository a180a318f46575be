import Derived.Test.Qxb6617024aFmtTu
namespace Go.Proofs.Qxb6617024aFmt
open Go.RowKit Go.Extern.Stop Go.Stop Go.Extern

theorem box_two {w w1 : World} {a b c d : Value} {E : TypeId} {ob : Obj} (hb : Below ((w.alloc (.cells #[a, b, c, d] E)).alloc ob).heap.size ((w.alloc (.cells #[a, b, c, d] E)).alloc ob) w1) : w1.cell? ⟨w.heap.size, 0, none⟩ = some a :=
  cell_below hb (cell_below ((Below.refl (w.alloc (.cells #[a, b, c, d] E)).heap.size _).alloc (Nat.le_refl _) ob) (by rw [World.cell?_alloc_new]; rfl))

set_option maxRecDepth 100000 in
set_option maxHeartbeats 2000000 in
/-- Where the field is there, what the buffer says of the place that it points to comes back. -/
theorem get_some (bb : Nat) (t1 t2 t3 : Value) (ro : Option Addr) (s pos d i1 i2 i3 : Int) (x y : Bool) (w : World) (hlt : bb < w.heap.size) (hp : ¬ pos < 0)
    (C : ∀ w1, Below w.heap.size w w1 → Calls Tryf.prog 25 #[.agg #[.pointer (some ⟨bb, 0, none⟩), t1, t2, t3], .int .i64 s, .int .i64 4] w1 fun e w' => e = .returned (.int .i64 pos) ∧ Below w1.heap.size w1 w')
    (CD : ∀ w1, Below w.heap.size w w1 → Calls Tryf.prog 26 #[.pointer (some ⟨bb, 0, none⟩), .int .i64 pos] w1 fun e w' => e = .returned (.int .i64 d) ∧ Kept bb w1 w' ∧ ErrIs w' bb y)
    (CT : ∀ w1, Kept bb w w1 → ErrIs w1 bb y → Calls Tryf.prog 22 #[.pointer (some ⟨bb, 0, none⟩), .int .i64 d] w1 fun e w' => e = .returned (.agg #[.pointer ro, .int .i64 i1, .int .i64 i2, .int .i64 i3]) ∧ Kept bb w1 w' ∧ ErrIs w' bb x) :
    Calls Tryf.prog 15 #[.agg #[.pointer (some ⟨bb, 0, none⟩), t1, t2, t3], .int .i64 s] w fun e w' => e = .returned (.agg #[.pointer ro, .int .i64 i1, .int .i64 i2, .int .i64 i3]) ∧ Kept bb w w' ∧ ErrIs w' bb x := by
  have hb0 : ∀ ob ob', Below w.heap.size w ((w.alloc ob).alloc ob') := fun ob ob' => ((Below.refl w.heap.size w).alloc (Nat.le_refl _) ob).alloc (by simp) ob'
  have HC := hide C
  have HD := hide CD
  have HT := hide CT
  clear C CD CT
  go_enter Tryf.func15, Tryf.ntmps15
  go_wp2_with fail
  refine (HC.out _ (hb0 _ _)).mono ?_
  rintro e w1 ⟨rfl, hb1⟩
  have q0 := box_two hb1
  have HF := hide ((Four.new2 w _).kept (Kept.of_below (bb := bb) hb1) (by omega))
  have HB := hide ((hb0 _ _).trans (hb1.mono (by simp; omega)))
  clear hb1 HC hb0
  go_wp2_with fail
  go_region_with (first
    | (go_at_call 26; refine (HD.out _ HB.out.drew).mono ?_; rintro e w2 ⟨rfl, hk2, he2⟩; have c2 := hk2.get (a := ⟨w.heap.size, 0, none⟩) q0 (by intro h; injection h with h; omega); have HK2 := hide hk2; have HE2 := hide he2; clear hk2 he2)
    | (go_at_call 22; refine (HT.out _ ((Kept.of_below HB.out.drew).trans HK2.out) HE2.out).mono ?_; rintro e w3 ⟨rfl, hk3, he3⟩; obtain ⟨m0, m1, m2, m3, m4, m5, m6, m7⟩ := HF.out.kept (((Kept.of_below (bb := bb) (Below.refl w1.heap.size w1).drew).trans HK2.out).trans hk3) (by omega); have HK3 := hide (((Kept.of_below HB.out.drew).trans HK2.out).trans hk3); have HE3 := hide he3; clear hk3 he3))
  all_goals go_wp2
  all_goals exact bodyPost_ret (v := .agg #[.pointer ro, .int .i64 i1, .int .i64 i2, .int .i64 i3]) (by simp [results, Tryf.results15, go_sem, m0, m1, m2, m3]) rfl ⟨rfl, (((HK3.out.own (by omega) _).own (by omega) _).own (by omega) _).own (by omega) _, (((HE3.out.own (by omega) _).own (by omega) _).own (by omega) _).own (by omega) _⟩

/-- The lookup of a slot that the format calls absent. -/
theorem get_absent (bb n c : Nat) (ao : Option Addr) (zs : List Int) (p s : Int) (w : World) (h : Buf w bb ao n c zs) (he : ErrIs w bb false) (h0 : 0 ≤ s) (hg : good zs p) (ha : Absent zs p s) :
    Calls Tryf.prog 15 #[isTable bb p (vtab zs p) (slots zs p), .int .i64 s] w fun e w' => e = .returned noTable ∧ Kept bb w w' ∧ ErrIs w' bb false := by
  have hl := h.len
  refine get_none bb _ _ _ _ s false w (block_lt_of_cell h.b) (fun w1 hb => ?_)
  have he1 := he.below hb
  have h1 := h.kept (Kept.of_below hb)
  have fin : ∀ {e : Ending} {w' : World}, (e = .returned (.int .i64 (-1)) ∧ Below w1.heap.size w1 w') → e = .returned (.int .i64 (-1)) ∧ Kept bb w1 w' ∧ ErrIs w' bb false :=
    fun k => ⟨k.1, Kept.of_below k.2, he1.below k.2⟩
  by_cases hx : slots zs p ≤ s
  · exact (field_past bb p (vtab zs p) (slots zs p) s 4 w1 he1 hx).mono fun _ _ k => fin k
  · obtain ⟨b1, b2, b3, b4, b5, b6⟩ := good_bounds h.wf hg
    have ho : offAt zs p s = 0 := by
      rcases ha with k | k | k
      · exact absurd hg k
      · exact absurd k hx
      · exact k
    have := b6 s (by omega)
    exact (field_zero bb n c ao zs p (vtab zs p) (slots zs p) s w1 h1 he1 h0 (by omega) b3 (by omega) ho).mono fun _ _ k => fin k

/-- The lookup in a buffer that keeps an error. -/
theorem get_stuck (bb : Nat) (p vt sl s : Int) (w : World) (he : ErrIs w bb true) :
    Calls Tryf.prog 15 #[isTable bb p vt sl, .int .i64 s] w fun e w' => e = .returned noTable ∧ Kept bb w w' ∧ ErrIs w' bb true := by
  have hlt : bb < w.heap.size := by obtain ⟨a, ha⟩ := he; exact block_lt_of_cell ha
  exact get_none bb _ _ _ _ s true w hlt (fun w1 hb => (field_bad bb p vt sl s 4 w1 (he.below hb)).mono fun _ _ k => ⟨k.1, Kept.of_below k.2, (he.below hb).below k.2⟩)

/-- The lookup in the zero Table. -/
theorem get_zero (bb : Nat) (s : Int) (x : Bool) (w : World) (hlt : bb < w.heap.size) (he : ErrIs w bb x) :
    Calls Tryf.prog 15 #[noTable, .int .i64 s] w fun e w' => e = .returned noTable ∧ Kept bb w w' ∧ ErrIs w' bb x :=
  get_none bb _ _ _ _ s x w hlt (fun w1 hb => (field_none s 4 w1).mono fun _ _ k => ⟨k.1, Kept.of_below k.2, (he.below hb).below k.2⟩)

/-- The lookup of a slot whose table is there. -/
theorem get_found (bb n c : Nat) (ao : Option Addr) (zs : List Int) (p s : Int) (w : World) (h : Buf w bb ao n c zs) (he : ErrIs w bb false) (h0 : 0 ≤ s) (hf : Found zs p s) :
    Calls Tryf.prog 15 #[isTable bb p (vtab zs p) (slots zs p), .int .i64 s] w fun e w' => e = .returned (isTable bb (target zs p s) (vtab zs (target zs p s)) (slots zs (target zs p s))) ∧ Kept bb w w' ∧ ErrIs w' bb false := by
  have hl := h.len
  obtain ⟨hg, k1, k2, k3, k4, k5⟩ := hf
  obtain ⟨b1, b2, b3, b4, b5, b6⟩ := good_bounds h.wf hg
  have := b6 s k1
  exact get_some bb _ _ _ _ s (p + offAt zs p s) (target zs p s) _ _ _ false false w (block_lt_of_cell h.b) (by omega)
    (fun w1 hb => field_ok bb n c ao zs p (vtab zs p) (slots zs p) s (offAt zs p s) w1 (h.kept (Kept.of_below hb)) (he.below hb) h0 k1 b3 (by omega) b1 (by omega) rfl k2 (by omega))
    (fun w1 hb => deref_ok bb n c ao zs (p + offAt zs p s) w1 (h.kept (Kept.of_below hb)) (he.below hb) (by omega) (by omega) (by omega))
    (fun w1 hk he1 => table_good bb n c ao zs (target zs p s) w1 (h.kept hk) he1 k5)

/-- The lookup of a slot that is refused. -/
theorem get_refused (bb n c : Nat) (ao : Option Addr) (zs : List Int) (p s : Int) (w : World) (h : Buf w bb ao n c zs) (he : ErrIs w bb false) (h0 : 0 ≤ s) (ha : ¬ Absent zs p s) (hf : ¬ Found zs p s) :
    Calls Tryf.prog 15 #[isTable bb p (vtab zs p) (slots zs p), .int .i64 s] w fun e w' => e = .returned noTable ∧ Kept bb w w' ∧ ErrIs w' bb true := by
  have hl := h.len
  have hg : good zs p := Classical.byContradiction fun k => ha (.inl k)
  have k1 : s < slots zs p := by
    have : ¬ slots zs p ≤ s := fun k => ha (.inr (.inl k))
    omega
  have k0 : ¬ offAt zs p s = 0 := fun k => ha (.inr (.inr k))
  obtain ⟨b1, b2, b3, b4, b5, b6⟩ := good_bounds h.wf hg
  have := b6 s k1
  have ho := (le16_wf h.wf (vtab zs p + 4 + 2 * s)).1
  rw [show le16 zs (vtab zs p + 4 + 2 * s) = offAt zs p s from rfl] at ho
  have hr := (le32_wf h.wf (p + offAt zs p s)).1
  by_cases k2 : offAt zs p s < 4
  · exact get_none bb _ _ _ _ s true w (block_lt_of_cell h.b) (fun w1 hb => field_low bb n c ao zs p (vtab zs p) (slots zs p) s (offAt zs p s) w1 (h.kept (Kept.of_below hb)) (he.below hb) h0 k1 b3 (by omega) rfl (by omega) k2)
  by_cases k3 : (n : Int) - p - 4 < offAt zs p s
  · exact get_none bb _ _ _ _ s true w (block_lt_of_cell h.b) (fun w1 hb => field_far bb n c ao zs p (vtab zs p) (slots zs p) s (offAt zs p s) w1 (h.kept (Kept.of_below hb)) (he.below hb) h0 k1 b3 (by omega) b1 (by omega) rfl (by omega) k3)
  have CF := fun (w1 : World) (hb : Below w.heap.size w w1) => field_ok bb n c ao zs p (vtab zs p) (slots zs p) s (offAt zs p s) w1 (h.kept (Kept.of_below hb)) (he.below hb) h0 k1 b3 (by omega) b1 (by omega) rfl (by omega) (by omega)
  by_cases k4 : (n : Int) - (p + offAt zs p s) ≤ le32 zs (p + offAt zs p s)
  · exact get_some bb _ _ _ _ s (p + offAt zs p s) (-1) _ _ _ true true w (block_lt_of_cell h.b) (by omega) CF
      (fun w1 hb => deref_no bb n c ao zs (p + offAt zs p s) w1 (h.kept (Kept.of_below hb)) (he.below hb) (by omega) (by omega) k4)
      (fun w1 _ he1 => (table_neg bb (-1) w1 (by omega)).mono fun _ _ k => ⟨k.1, Kept.of_below k.2, he1.below k.2⟩)
  have k5 : ¬ good zs (target zs p s) := fun k => hf ⟨hg, k1, by omega, by omega, by omega, k⟩
  exact get_some bb _ _ _ _ s (p + offAt zs p s) (target zs p s) _ _ _ true false w (block_lt_of_cell h.b) (by omega) CF
    (fun w1 hb => deref_ok bb n c ao zs (p + offAt zs p s) w1 (h.kept (Kept.of_below hb)) (he.below hb) (by omega) (by omega) (by omega))
    (fun w1 hk he1 => table_bad bb n c ao zs (target zs p s) w1 (h.kept hk) he1 (by unfold target; omega) k5)
end Go.Proofs.Qxb6617024aFmt

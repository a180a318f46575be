import Derived.Test.Qxb6617024aFmtTx
namespace Go.Proofs.Qxb6617024aFmt
open Go.RowKit Go.Extern.Stop Go.Stop Go.Extern

theorem four_new {w w1 : World} {a b c d : Value} {E : TypeId} {bb : Nat} (hk : Kept bb (w.alloc (.cells #[a, b, c, d] E)) w1) (hn : w.heap.size ≠ bb) :
    w1.cell? ⟨w.heap.size, 0, none⟩ = some a ∧ w1.cell? ⟨w.heap.size, 1, none⟩ = some b ∧ w1.cell? ⟨w.heap.size, 2, none⟩ = some c ∧ w1.cell? ⟨w.heap.size, 3, none⟩ = some d := by
  have hx : ∀ i : Nat, (⟨w.heap.size, i, none⟩ : Addr) ≠ ⟨bb, 1, none⟩ := fun i e => by injection e with e; exact hn e
  exact ⟨hk.get (by rw [World.cell?_alloc_new]; rfl) (hx _), hk.get (by rw [World.cell?_alloc_new]; rfl) (hx _), hk.get (by rw [World.cell?_alloc_new]; rfl) (hx _), hk.get (by rw [World.cell?_alloc_new]; rfl) (hx _)⟩
/-- Four cells of a block, as they lie. -/
structure Holds (w : World) (r : Nat) (a b c d : Value) : Prop where
  c0 : w.cell? ⟨r, 0, none⟩ = some a
  c1 : w.cell? ⟨r, 1, none⟩ = some b
  c2 : w.cell? ⟨r, 2, none⟩ = some c
  c3 : w.cell? ⟨r, 3, none⟩ = some d
theorem Holds.kept {w w' : World} {bb r : Nat} {a b c d : Value} (h : Holds w r a b c d) (k : Kept bb w w') (hr : r ≠ bb) : Holds w' r a b c d := by
  have hn : ∀ i : Nat, (⟨r, i, none⟩ : Addr) ≠ ⟨bb, 1, none⟩ := fun i e => by injection e with e; exact hr e
  exact ⟨k.get h.c0 (hn _), k.get h.c1 (hn _), k.get h.c2 (hn _), k.get h.c3 (hn _)⟩
theorem Holds.below {w w' : World} {r : Nat} {a b c d : Value} (h : Holds w r a b c d) (k : Below w.heap.size w w') : Holds w' r a b c d := 
  ⟨cell_below k h.c0, cell_below k h.c1, cell_below k h.c2, cell_below k h.c3⟩
theorem Holds.new (w : World) (a b c d : Value) (E : TypeId) : Holds (w.alloc (.cells #[a, b, c, d] E)) w.heap.size a b c d :=
  ⟨by rw [World.cell?_alloc_new]; rfl, by rw [World.cell?_alloc_new]; rfl, by rw [World.cell?_alloc_new]; rfl, by rw [World.cell?_alloc_new]; rfl⟩

set_option maxHeartbeats 400000 in
theorem present_yes_any (a : Addr) (t1 t2 t3 : Value) (w : World) : Calls Tryf.prog 11 #[.agg #[.pointer (some a), t1, t2, t3]] w fun e w' => e = .returned (.bool true) ∧ Below w.heap.size w w' := by
  go_enter Tryf.func11, Tryf.ntmps11
  go_wp2
  go_ret
  exact ⟨rfl, (Below.refl _ _).alloc (Nat.le_refl _) _⟩
theorem al (w : World) (ob : Obj) : Below w.heap.size w (w.alloc ob) := (Below.refl _ _).alloc (Nat.le_refl _) ob

set_option maxRecDepth 100000 in
set_option maxHeartbeats 4000000 in
theorem sticky_ff (ao co : Option Addr) (n c c2 : Nat) (p s t : Int) (Good : World → Prop) (po : Nat → Option Addr) (p1 p2 p3 : Int) (fo : Nat → Addr) (f1 f2 f3 : Int) (go : Nat → Addr) (g1 g2 g3 : Int) (x0 x1 x2 : Bool) (w : World) (hn : n ≤ 1048576) (hs : 0 ≤ s) (ht : 0 ≤ t)
    (G : ∀ w1, Good w1 → Below w.heap.size w w1)
    (K8 : Calls Tryf.prog 8 #[.slice ao n c] w fun e w' => e = .returned (.slice co n c2) ∧ Good w')
    (K10 : ∀ w1, Good w1 → Calls Tryf.prog 10 #[.pointer (some ⟨w1.heap.size, 0, none⟩), .int .i64 p] (w1.alloc (bufObj co n c2)) fun e w' => e = .returned (.agg #[.pointer (po w1.heap.size), .int .i64 p1, .int .i64 p2, .int .i64 p3]) ∧ Kept w1.heap.size (w1.alloc (bufObj co n c2)) w' ∧ ErrIs w' w1.heap.size x0)
    (K15 : ∀ w1 w2, Good w1 → Kept w1.heap.size (w1.alloc (bufObj co n c2)) w2 → ErrIs w2 w1.heap.size x0 → Calls Tryf.prog 15 #[.agg #[.pointer (po w1.heap.size), .int .i64 p1, .int .i64 p2, .int .i64 p3], .int .i64 s] w2 fun e w' => e = .returned (.agg #[.pointer (some (fo w1.heap.size)), .int .i64 f1, .int .i64 f2, .int .i64 f3]) ∧ Kept w1.heap.size w2 w' ∧ ErrIs w' w1.heap.size x1)
    (K15b : ∀ w1 w2, Good w1 → Kept w1.heap.size (w1.alloc (bufObj co n c2)) w2 → ErrIs w2 w1.heap.size x1 → Calls Tryf.prog 15 #[.agg #[.pointer (po w1.heap.size), .int .i64 p1, .int .i64 p2, .int .i64 p3], .int .i64 t] w2 fun e w' => e = .returned (.agg #[.pointer (some (go w1.heap.size)), .int .i64 g1, .int .i64 g2, .int .i64 g3]) ∧ Kept w1.heap.size w2 w' ∧ ErrIs w' w1.heap.size x2)
    (K16 : ∀ w1, Below w.heap.size w w1 → Calls Tryf.prog 16 #[.slice ao n c, .int .i64 p, .int .i64 s] w1 fun e w' => e = .returned (.tuple #[.bool true, .int .i64 f1, .int .i64 f2, .int .i64 f3, .bool false]) ∧ Below w1.heap.size w1 w')
    (K16b : ∀ w1, Below w.heap.size w w1 → Calls Tryf.prog 16 #[.slice ao n c, .int .i64 p, .int .i64 t] w1 fun e w' => e = .returned (.tuple #[.bool true, .int .i64 g1, .int .i64 g2, .int .i64 g3, .bool false]) ∧ Below w1.heap.size w1 w') :
    Calls Tryf.prog 6 #[.slice ao n c, .int .i64 p, .int .i64 s, .int .i64 t] w fun e w' => e = .returned (.bool true) ∧ Below w.heap.size w w' := by
  have K21 := small6 ao n c p s t w hn
  have HG := hide G
  have HK10 := hide K10
  have HK15 := hide K15
  have HK15b := hide K15b
  have HK16 := hide K16
  have HK16b := hide K16b
  clear G K10 K15 K15b K16 K16b
  go_enter Tryf.func6, Tryf.ntmps6
  go_wp2_with fail
  refine K21.mono ?_
  rintro e w' ⟨rfl, hw'⟩
  subst w'
  go_wp2_with fail
  refine K8.mono ?_
  rintro e w1 ⟨rfl, hg⟩
  have HGo := hide hg
  have hsz := (HG.out w1 hg).size
  clear hg K8 K21
  go_wp2_with fail
  refine (newBuffer co n c2 w1).mono ?_
  rintro e w' ⟨rfl, hw'⟩
  subst w'
  go_wp2_with fail
  refine (HK10.out w1 HGo.out).mono ?_
  rintro e w2 ⟨rfl, hk2, he2⟩
  have HK2 := hide hk2
  have HE2 := hide he2
  have z2 : w1.heap.size < w2.heap.size := by have := hk2.size; simp at this; omega
  clear hk2 he2 HK10
  go_wp2_with fail
  refine (HK15.out w1 _ HGo.out (HK2.out.trans (Kept.of_below (al w2 _))) (HE2.out.below (al w2 _))).mono ?_
  rintro e w3 ⟨rfl, hk3, he3⟩
  have HP3 := hide ((Holds.new w2 _ _ _ _ _).kept hk3 (by omega))
  have HK3 := hide ((HK2.out.trans (Kept.of_below (al w2 _))).trans hk3)
  have HE3 := hide he3
  have z3 : w2.heap.size < w3.heap.size := by have := hk3.size; simp at this; omega
  clear hk3 he3 HK15 HK2 HE2
  obtain ⟨a0, a1, a2, a3⟩ := HP3.out.below (al w3 (.cells #[.pointer (some (fo w1.heap.size)), .int .i64 f1, .int .i64 f2, .int .i64 f3] 28))
  go_wp2_with fail
  refine (HK15b.out w1 _ HGo.out (HK3.out.trans (Kept.of_below (al w3 _))) (HE3.out.below (al w3 _))).mono ?_
  rintro e w4 ⟨rfl, hk4, he4⟩
  have HF4 := hide ((Holds.new w3 _ _ _ _ _).kept hk4 (by omega))
  have hk5 := (HK3.out.trans (Kept.of_below (al w3 _))).trans hk4
  have HB4 := hide (((HG.out w1 HGo.out).trans ((al w1 _).mono hsz)).trans (hk5.below (B := w.heap.size) hsz (by simp; omega)))
  have z4 : w3.heap.size < w4.heap.size := by have := hk4.size; simp at this; omega
  clear hk4 he4 hk5 HK15b HK3 HE3 HP3 a0 a1 a2 a3 HG HGo
  go_wp2_with fail
  refine (HK16.out _ (HB4.out.trans ((al w4 _).mono HB4.out.size))).mono ?_
  rintro e w5 ⟨rfl, hb5⟩
  have HF5 := hide ((HF4.out.below (al w4 _)).below hb5)
  have HS5 := hide ((Holds.new w4 _ _ _ _ _).below hb5)
  have HB5 := hide ((HB4.out.trans ((al w4 _).mono HB4.out.size)).trans (hb5.mono (by have := HB4.out.size; simp; omega)))
  clear hb5 HK16 HB4 HF4
  go_wp2_with fail
  refine (HK16b.out _ HB5.out).mono ?_
  rintro e w6 ⟨rfl, hb6⟩
  have HF6 := hide (HF5.out.below hb6)
  have HS6 := hide (HS5.out.below hb6)
  have HB6 := hide (HB5.out.trans (hb6.mono HB5.out.size))
  clear hb6 HK16b HB5 HF5 HS5
  obtain ⟨a0, a1, a2, a3⟩ := HF6.out
  go_wp2_with fail
  refine (present_yes_any _ _ _ _ w6).mono ?_
  rintro e w7 ⟨rfl, hb7⟩
  have HF7 := hide (HF6.out.below hb7)
  have HS7 := hide (HS6.out.below hb7)
  have HB7 := hide (HB6.out.trans (hb7.mono HB6.out.size))
  clear hb7 HB6 HF6 HS6 a0 a1 a2 a3
  obtain ⟨a0, a1, a2, a3⟩ := HF7.out
  go_wp2_with fail
  refine (getPos _ _ _ _ w7).mono ?_
  rintro e w8 ⟨rfl, hb8⟩
  have HF8 := hide (HF7.out.below hb8)
  have HS8 := hide (HS7.out.below hb8)
  have HB8 := hide (HB7.out.trans (hb8.mono HB7.out.size))
  clear hb8 HB7 HF7 HS7 a0 a1 a2 a3
  obtain ⟨a0, a1, a2, a3⟩ := HS8.out
  go_wp2_with fail
  refine (present_yes_any _ _ _ _ w8).mono ?_
  rintro e w9 ⟨rfl, hb9⟩
  have HF9 := hide (HF8.out.below hb9)
  have HS9 := hide (HS8.out.below hb9)
  have HB9 := hide (HB8.out.trans (hb9.mono HB8.out.size))
  clear hb9 HB8 HF8 HS8 a0 a1 a2 a3
  obtain ⟨a0, a1, a2, a3⟩ := HS9.out
  go_wp2_with fail
  refine (getPos _ _ _ _ w9).mono ?_
  rintro e w10 ⟨rfl, hb10⟩
  have HF10 := hide (HF9.out.below hb10)
  have HS10 := hide (HS9.out.below hb10)
  have HB10 := hide (HB9.out.trans (hb10.mono HB9.out.size))
  clear hb10 HB9 HF9 HS9 a0 a1 a2 a3
  obtain ⟨a0, a1, a2, a3⟩ := HS10.out
  go_wp2
  go_ret
  exact ⟨rfl, HB10.out⟩

set_option maxRecDepth 100000 in
set_option maxHeartbeats 4000000 in
theorem sticky_fn (ao co : Option Addr) (n c c2 : Nat) (p s t : Int) (Good : World → Prop) (po : Nat → Option Addr) (p1 p2 p3 : Int) (fo : Nat → Addr) (f1 f2 f3 : Int) (u : Bool) (x0 x1 x2 : Bool) (w : World) (hn : n ≤ 1048576) (hs : 0 ≤ s) (ht : 0 ≤ t)
    (G : ∀ w1, Good w1 → Below w.heap.size w w1)
    (K8 : Calls Tryf.prog 8 #[.slice ao n c] w fun e w' => e = .returned (.slice co n c2) ∧ Good w')
    (K10 : ∀ w1, Good w1 → Calls Tryf.prog 10 #[.pointer (some ⟨w1.heap.size, 0, none⟩), .int .i64 p] (w1.alloc (bufObj co n c2)) fun e w' => e = .returned (.agg #[.pointer (po w1.heap.size), .int .i64 p1, .int .i64 p2, .int .i64 p3]) ∧ Kept w1.heap.size (w1.alloc (bufObj co n c2)) w' ∧ ErrIs w' w1.heap.size x0)
    (K15 : ∀ w1 w2, Good w1 → Kept w1.heap.size (w1.alloc (bufObj co n c2)) w2 → ErrIs w2 w1.heap.size x0 → Calls Tryf.prog 15 #[.agg #[.pointer (po w1.heap.size), .int .i64 p1, .int .i64 p2, .int .i64 p3], .int .i64 s] w2 fun e w' => e = .returned (.agg #[.pointer (some (fo w1.heap.size)), .int .i64 f1, .int .i64 f2, .int .i64 f3]) ∧ Kept w1.heap.size w2 w' ∧ ErrIs w' w1.heap.size x1)
    (K15b : ∀ w1 w2, Good w1 → Kept w1.heap.size (w1.alloc (bufObj co n c2)) w2 → ErrIs w2 w1.heap.size x1 → Calls Tryf.prog 15 #[.agg #[.pointer (po w1.heap.size), .int .i64 p1, .int .i64 p2, .int .i64 p3], .int .i64 t] w2 fun e w' => e = .returned (.agg #[.pointer none, .int .i64 0, .int .i64 0, .int .i64 0]) ∧ Kept w1.heap.size w2 w' ∧ ErrIs w' w1.heap.size x2)
    (K16 : ∀ w1, Below w.heap.size w w1 → Calls Tryf.prog 16 #[.slice ao n c, .int .i64 p, .int .i64 s] w1 fun e w' => e = .returned (.tuple #[.bool true, .int .i64 f1, .int .i64 f2, .int .i64 f3, .bool false]) ∧ Below w1.heap.size w1 w')
    (K16b : ∀ w1, Below w.heap.size w w1 → Calls Tryf.prog 16 #[.slice ao n c, .int .i64 p, .int .i64 t] w1 fun e w' => e = .returned (.tuple #[.bool false, .int .i64 0, .int .i64 0, .int .i64 0, .bool u]) ∧ Below w1.heap.size w1 w') :
    Calls Tryf.prog 6 #[.slice ao n c, .int .i64 p, .int .i64 s, .int .i64 t] w fun e w' => e = .returned (.bool true) ∧ Below w.heap.size w w' := by
  have K21 := small6 ao n c p s t w hn
  have HG := hide G
  have HK10 := hide K10
  have HK15 := hide K15
  have HK15b := hide K15b
  have HK16 := hide K16
  have HK16b := hide K16b
  clear G K10 K15 K15b K16 K16b
  go_enter Tryf.func6, Tryf.ntmps6
  go_wp2_with fail
  refine K21.mono ?_
  rintro e w' ⟨rfl, hw'⟩
  subst w'
  go_wp2_with fail
  refine K8.mono ?_
  rintro e w1 ⟨rfl, hg⟩
  have HGo := hide hg
  have hsz := (HG.out w1 hg).size
  clear hg K8 K21
  go_wp2_with fail
  refine (newBuffer co n c2 w1).mono ?_
  rintro e w' ⟨rfl, hw'⟩
  subst w'
  go_wp2_with fail
  refine (HK10.out w1 HGo.out).mono ?_
  rintro e w2 ⟨rfl, hk2, he2⟩
  have HK2 := hide hk2
  have HE2 := hide he2
  have z2 : w1.heap.size < w2.heap.size := by have := hk2.size; simp at this; omega
  clear hk2 he2 HK10
  go_wp2_with fail
  refine (HK15.out w1 _ HGo.out (HK2.out.trans (Kept.of_below (al w2 _))) (HE2.out.below (al w2 _))).mono ?_
  rintro e w3 ⟨rfl, hk3, he3⟩
  have HP3 := hide ((Holds.new w2 _ _ _ _ _).kept hk3 (by omega))
  have HK3 := hide ((HK2.out.trans (Kept.of_below (al w2 _))).trans hk3)
  have HE3 := hide he3
  have z3 : w2.heap.size < w3.heap.size := by have := hk3.size; simp at this; omega
  clear hk3 he3 HK15 HK2 HE2
  obtain ⟨a0, a1, a2, a3⟩ := HP3.out.below (al w3 (.cells #[.pointer (some (fo w1.heap.size)), .int .i64 f1, .int .i64 f2, .int .i64 f3] 28))
  go_wp2_with fail
  refine (HK15b.out w1 _ HGo.out (HK3.out.trans (Kept.of_below (al w3 _))) (HE3.out.below (al w3 _))).mono ?_
  rintro e w4 ⟨rfl, hk4, he4⟩
  have HF4 := hide ((Holds.new w3 _ _ _ _ _).kept hk4 (by omega))
  have hk5 := (HK3.out.trans (Kept.of_below (al w3 _))).trans hk4
  have HB4 := hide (((HG.out w1 HGo.out).trans ((al w1 _).mono hsz)).trans (hk5.below (B := w.heap.size) hsz (by simp; omega)))
  have z4 : w3.heap.size < w4.heap.size := by have := hk4.size; simp at this; omega
  clear hk4 he4 hk5 HK15b HK3 HE3 HP3 a0 a1 a2 a3 HG HGo
  go_wp2_with fail
  refine (HK16.out _ (HB4.out.trans ((al w4 _).mono HB4.out.size))).mono ?_
  rintro e w5 ⟨rfl, hb5⟩
  have HF5 := hide ((HF4.out.below (al w4 _)).below hb5)
  have HS5 := hide ((Holds.new w4 _ _ _ _ _).below hb5)
  have HB5 := hide ((HB4.out.trans ((al w4 _).mono HB4.out.size)).trans (hb5.mono (by have := HB4.out.size; simp; omega)))
  clear hb5 HK16 HB4 HF4
  go_wp2_with fail
  refine (HK16b.out _ HB5.out).mono ?_
  rintro e w6 ⟨rfl, hb6⟩
  have HF6 := hide (HF5.out.below hb6)
  have HS6 := hide (HS5.out.below hb6)
  have HB6 := hide (HB5.out.trans (hb6.mono HB5.out.size))
  clear hb6 HK16b HB5 HF5 HS5
  obtain ⟨a0, a1, a2, a3⟩ := HF6.out
  go_wp2_with fail
  refine (present_yes_any _ _ _ _ w6).mono ?_
  rintro e w7 ⟨rfl, hb7⟩
  have HF7 := hide (HF6.out.below hb7)
  have HS7 := hide (HS6.out.below hb7)
  have HB7 := hide (HB6.out.trans (hb7.mono HB6.out.size))
  clear hb7 HB6 HF6 HS6 a0 a1 a2 a3
  obtain ⟨a0, a1, a2, a3⟩ := HF7.out
  go_wp2_with fail
  refine (getPos _ _ _ _ w7).mono ?_
  rintro e w8 ⟨rfl, hb8⟩
  have HF8 := hide (HF7.out.below hb8)
  have HS8 := hide (HS7.out.below hb8)
  have HB8 := hide (HB7.out.trans (hb8.mono HB7.out.size))
  clear hb8 HB7 HF7 HS7 a0 a1 a2 a3
  obtain ⟨a0, a1, a2, a3⟩ := HS8.out
  go_wp2_with fail
  refine (present_no w8).mono ?_
  rintro e w9 ⟨rfl, hb9⟩
  have HF9 := hide (HF8.out.below hb9)
  have HS9 := hide (HS8.out.below hb9)
  have HB9 := hide (HB8.out.trans (hb9.mono HB8.out.size))
  clear hb9 HB8 HF8 HS8 a0 a1 a2 a3
  obtain ⟨a0, a1, a2, a3⟩ := HS9.out
  go_wp2
  go_ret
  exact ⟨rfl, HB9.out⟩

set_option maxRecDepth 100000 in
set_option maxHeartbeats 4000000 in
theorem sticky_nf (ao co : Option Addr) (n c c2 : Nat) (p s t : Int) (Good : World → Prop) (po : Nat → Option Addr) (p1 p2 p3 : Int) (go : Nat → Addr) (g1 g2 g3 : Int) (x0 x1 x2 : Bool) (w : World) (hn : n ≤ 1048576) (hs : 0 ≤ s) (ht : 0 ≤ t)
    (G : ∀ w1, Good w1 → Below w.heap.size w w1)
    (K8 : Calls Tryf.prog 8 #[.slice ao n c] w fun e w' => e = .returned (.slice co n c2) ∧ Good w')
    (K10 : ∀ w1, Good w1 → Calls Tryf.prog 10 #[.pointer (some ⟨w1.heap.size, 0, none⟩), .int .i64 p] (w1.alloc (bufObj co n c2)) fun e w' => e = .returned (.agg #[.pointer (po w1.heap.size), .int .i64 p1, .int .i64 p2, .int .i64 p3]) ∧ Kept w1.heap.size (w1.alloc (bufObj co n c2)) w' ∧ ErrIs w' w1.heap.size x0)
    (K15 : ∀ w1 w2, Good w1 → Kept w1.heap.size (w1.alloc (bufObj co n c2)) w2 → ErrIs w2 w1.heap.size x0 → Calls Tryf.prog 15 #[.agg #[.pointer (po w1.heap.size), .int .i64 p1, .int .i64 p2, .int .i64 p3], .int .i64 s] w2 fun e w' => e = .returned (.agg #[.pointer none, .int .i64 0, .int .i64 0, .int .i64 0]) ∧ Kept w1.heap.size w2 w' ∧ ErrIs w' w1.heap.size x1)
    (K15b : ∀ w1 w2, Good w1 → Kept w1.heap.size (w1.alloc (bufObj co n c2)) w2 → ErrIs w2 w1.heap.size x1 → Calls Tryf.prog 15 #[.agg #[.pointer (po w1.heap.size), .int .i64 p1, .int .i64 p2, .int .i64 p3], .int .i64 t] w2 fun e w' => e = .returned (.agg #[.pointer (some (go w1.heap.size)), .int .i64 g1, .int .i64 g2, .int .i64 g3]) ∧ Kept w1.heap.size w2 w' ∧ ErrIs w' w1.heap.size x2)
    (K16 : ∀ w1, Below w.heap.size w w1 → Calls Tryf.prog 16 #[.slice ao n c, .int .i64 p, .int .i64 s] w1 fun e w' => e = .returned (.tuple #[.bool false, .int .i64 0, .int .i64 0, .int .i64 0, .bool false]) ∧ Below w1.heap.size w1 w')
    (K16b : ∀ w1, Below w.heap.size w w1 → Calls Tryf.prog 16 #[.slice ao n c, .int .i64 p, .int .i64 t] w1 fun e w' => e = .returned (.tuple #[.bool true, .int .i64 g1, .int .i64 g2, .int .i64 g3, .bool false]) ∧ Below w1.heap.size w1 w') :
    Calls Tryf.prog 6 #[.slice ao n c, .int .i64 p, .int .i64 s, .int .i64 t] w fun e w' => e = .returned (.bool true) ∧ Below w.heap.size w w' := by
  have K21 := small6 ao n c p s t w hn
  have HG := hide G
  have HK10 := hide K10
  have HK15 := hide K15
  have HK15b := hide K15b
  have HK16 := hide K16
  have HK16b := hide K16b
  clear G K10 K15 K15b K16 K16b
  go_enter Tryf.func6, Tryf.ntmps6
  go_wp2_with fail
  refine K21.mono ?_
  rintro e w' ⟨rfl, hw'⟩
  subst w'
  go_wp2_with fail
  refine K8.mono ?_
  rintro e w1 ⟨rfl, hg⟩
  have HGo := hide hg
  have hsz := (HG.out w1 hg).size
  clear hg K8 K21
  go_wp2_with fail
  refine (newBuffer co n c2 w1).mono ?_
  rintro e w' ⟨rfl, hw'⟩
  subst w'
  go_wp2_with fail
  refine (HK10.out w1 HGo.out).mono ?_
  rintro e w2 ⟨rfl, hk2, he2⟩
  have HK2 := hide hk2
  have HE2 := hide he2
  have z2 : w1.heap.size < w2.heap.size := by have := hk2.size; simp at this; omega
  clear hk2 he2 HK10
  go_wp2_with fail
  refine (HK15.out w1 _ HGo.out (HK2.out.trans (Kept.of_below (al w2 _))) (HE2.out.below (al w2 _))).mono ?_
  rintro e w3 ⟨rfl, hk3, he3⟩
  have HP3 := hide ((Holds.new w2 _ _ _ _ _).kept hk3 (by omega))
  have HK3 := hide ((HK2.out.trans (Kept.of_below (al w2 _))).trans hk3)
  have HE3 := hide he3
  have z3 : w2.heap.size < w3.heap.size := by have := hk3.size; simp at this; omega
  clear hk3 he3 HK15 HK2 HE2
  obtain ⟨a0, a1, a2, a3⟩ := HP3.out.below (al w3 (.cells #[.pointer none, .int .i64 0, .int .i64 0, .int .i64 0] 28))
  go_wp2_with fail
  refine (HK15b.out w1 _ HGo.out (HK3.out.trans (Kept.of_below (al w3 _))) (HE3.out.below (al w3 _))).mono ?_
  rintro e w4 ⟨rfl, hk4, he4⟩
  have HF4 := hide ((Holds.new w3 _ _ _ _ _).kept hk4 (by omega))
  have hk5 := (HK3.out.trans (Kept.of_below (al w3 _))).trans hk4
  have HB4 := hide (((HG.out w1 HGo.out).trans ((al w1 _).mono hsz)).trans (hk5.below (B := w.heap.size) hsz (by simp; omega)))
  have z4 : w3.heap.size < w4.heap.size := by have := hk4.size; simp at this; omega
  clear hk4 he4 hk5 HK15b HK3 HE3 HP3 a0 a1 a2 a3 HG HGo
  go_wp2_with fail
  refine (HK16.out _ (HB4.out.trans ((al w4 _).mono HB4.out.size))).mono ?_
  rintro e w5 ⟨rfl, hb5⟩
  have HF5 := hide ((HF4.out.below (al w4 _)).below hb5)
  have HS5 := hide ((Holds.new w4 _ _ _ _ _).below hb5)
  have HB5 := hide ((HB4.out.trans ((al w4 _).mono HB4.out.size)).trans (hb5.mono (by have := HB4.out.size; simp; omega)))
  clear hb5 HK16 HB4 HF4
  go_wp2_with fail
  refine (HK16b.out _ HB5.out).mono ?_
  rintro e w6 ⟨rfl, hb6⟩
  have HF6 := hide (HF5.out.below hb6)
  have HS6 := hide (HS5.out.below hb6)
  have HB6 := hide (HB5.out.trans (hb6.mono HB5.out.size))
  clear hb6 HK16b HB5 HF5 HS5
  obtain ⟨a0, a1, a2, a3⟩ := HF6.out
  go_wp2_with fail
  refine (present_no w6).mono ?_
  rintro e w7 ⟨rfl, hb7⟩
  have HF7 := hide (HF6.out.below hb7)
  have HS7 := hide (HS6.out.below hb7)
  have HB7 := hide (HB6.out.trans (hb7.mono HB6.out.size))
  clear hb7 HB6 HF6 HS6 a0 a1 a2 a3
  obtain ⟨a0, a1, a2, a3⟩ := HS7.out
  go_wp2_with fail
  refine (present_yes_any _ _ _ _ w7).mono ?_
  rintro e w8 ⟨rfl, hb8⟩
  have HF8 := hide (HF7.out.below hb8)
  have HS8 := hide (HS7.out.below hb8)
  have HB8 := hide (HB7.out.trans (hb8.mono HB7.out.size))
  clear hb8 HB7 HF7 HS7 a0 a1 a2 a3
  obtain ⟨a0, a1, a2, a3⟩ := HS8.out
  go_wp2_with fail
  refine (getPos _ _ _ _ w8).mono ?_
  rintro e w9 ⟨rfl, hb9⟩
  have HF9 := hide (HF8.out.below hb9)
  have HS9 := hide (HS8.out.below hb9)
  have HB9 := hide (HB8.out.trans (hb9.mono HB8.out.size))
  clear hb9 HB8 HF8 HS8 a0 a1 a2 a3
  obtain ⟨a0, a1, a2, a3⟩ := HS9.out
  go_wp2
  go_ret
  exact ⟨rfl, HB9.out⟩

set_option maxRecDepth 100000 in
set_option maxHeartbeats 4000000 in
theorem sticky_nn (ao co : Option Addr) (n c c2 : Nat) (p s t : Int) (Good : World → Prop) (po : Nat → Option Addr) (p1 p2 p3 : Int) (u : Bool) (x0 x1 x2 : Bool) (w : World) (hn : n ≤ 1048576) (hs : 0 ≤ s) (ht : 0 ≤ t)
    (G : ∀ w1, Good w1 → Below w.heap.size w w1)
    (K8 : Calls Tryf.prog 8 #[.slice ao n c] w fun e w' => e = .returned (.slice co n c2) ∧ Good w')
    (K10 : ∀ w1, Good w1 → Calls Tryf.prog 10 #[.pointer (some ⟨w1.heap.size, 0, none⟩), .int .i64 p] (w1.alloc (bufObj co n c2)) fun e w' => e = .returned (.agg #[.pointer (po w1.heap.size), .int .i64 p1, .int .i64 p2, .int .i64 p3]) ∧ Kept w1.heap.size (w1.alloc (bufObj co n c2)) w' ∧ ErrIs w' w1.heap.size x0)
    (K15 : ∀ w1 w2, Good w1 → Kept w1.heap.size (w1.alloc (bufObj co n c2)) w2 → ErrIs w2 w1.heap.size x0 → Calls Tryf.prog 15 #[.agg #[.pointer (po w1.heap.size), .int .i64 p1, .int .i64 p2, .int .i64 p3], .int .i64 s] w2 fun e w' => e = .returned (.agg #[.pointer none, .int .i64 0, .int .i64 0, .int .i64 0]) ∧ Kept w1.heap.size w2 w' ∧ ErrIs w' w1.heap.size x1)
    (K15b : ∀ w1 w2, Good w1 → Kept w1.heap.size (w1.alloc (bufObj co n c2)) w2 → ErrIs w2 w1.heap.size x1 → Calls Tryf.prog 15 #[.agg #[.pointer (po w1.heap.size), .int .i64 p1, .int .i64 p2, .int .i64 p3], .int .i64 t] w2 fun e w' => e = .returned (.agg #[.pointer none, .int .i64 0, .int .i64 0, .int .i64 0]) ∧ Kept w1.heap.size w2 w' ∧ ErrIs w' w1.heap.size x2)
    (K16 : ∀ w1, Below w.heap.size w w1 → Calls Tryf.prog 16 #[.slice ao n c, .int .i64 p, .int .i64 s] w1 fun e w' => e = .returned (.tuple #[.bool false, .int .i64 0, .int .i64 0, .int .i64 0, .bool false]) ∧ Below w1.heap.size w1 w')
    (K16b : ∀ w1, Below w.heap.size w w1 → Calls Tryf.prog 16 #[.slice ao n c, .int .i64 p, .int .i64 t] w1 fun e w' => e = .returned (.tuple #[.bool false, .int .i64 0, .int .i64 0, .int .i64 0, .bool u]) ∧ Below w1.heap.size w1 w') :
    Calls Tryf.prog 6 #[.slice ao n c, .int .i64 p, .int .i64 s, .int .i64 t] w fun e w' => e = .returned (.bool true) ∧ Below w.heap.size w w' := by
  have K21 := small6 ao n c p s t w hn
  have HG := hide G
  have HK10 := hide K10
  have HK15 := hide K15
  have HK15b := hide K15b
  have HK16 := hide K16
  have HK16b := hide K16b
  clear G K10 K15 K15b K16 K16b
  go_enter Tryf.func6, Tryf.ntmps6
  go_wp2_with fail
  refine K21.mono ?_
  rintro e w' ⟨rfl, hw'⟩
  subst w'
  go_wp2_with fail
  refine K8.mono ?_
  rintro e w1 ⟨rfl, hg⟩
  have HGo := hide hg
  have hsz := (HG.out w1 hg).size
  clear hg K8 K21
  go_wp2_with fail
  refine (newBuffer co n c2 w1).mono ?_
  rintro e w' ⟨rfl, hw'⟩
  subst w'
  go_wp2_with fail
  refine (HK10.out w1 HGo.out).mono ?_
  rintro e w2 ⟨rfl, hk2, he2⟩
  have HK2 := hide hk2
  have HE2 := hide he2
  have z2 : w1.heap.size < w2.heap.size := by have := hk2.size; simp at this; omega
  clear hk2 he2 HK10
  go_wp2_with fail
  refine (HK15.out w1 _ HGo.out (HK2.out.trans (Kept.of_below (al w2 _))) (HE2.out.below (al w2 _))).mono ?_
  rintro e w3 ⟨rfl, hk3, he3⟩
  have HP3 := hide ((Holds.new w2 _ _ _ _ _).kept hk3 (by omega))
  have HK3 := hide ((HK2.out.trans (Kept.of_below (al w2 _))).trans hk3)
  have HE3 := hide he3
  have z3 : w2.heap.size < w3.heap.size := by have := hk3.size; simp at this; omega
  clear hk3 he3 HK15 HK2 HE2
  obtain ⟨a0, a1, a2, a3⟩ := HP3.out.below (al w3 (.cells #[.pointer none, .int .i64 0, .int .i64 0, .int .i64 0] 28))
  go_wp2_with fail
  refine (HK15b.out w1 _ HGo.out (HK3.out.trans (Kept.of_below (al w3 _))) (HE3.out.below (al w3 _))).mono ?_
  rintro e w4 ⟨rfl, hk4, he4⟩
  have HF4 := hide ((Holds.new w3 _ _ _ _ _).kept hk4 (by omega))
  have hk5 := (HK3.out.trans (Kept.of_below (al w3 _))).trans hk4
  have HB4 := hide (((HG.out w1 HGo.out).trans ((al w1 _).mono hsz)).trans (hk5.below (B := w.heap.size) hsz (by simp; omega)))
  have z4 : w3.heap.size < w4.heap.size := by have := hk4.size; simp at this; omega
  clear hk4 he4 hk5 HK15b HK3 HE3 HP3 a0 a1 a2 a3 HG HGo
  go_wp2_with fail
  refine (HK16.out _ (HB4.out.trans ((al w4 _).mono HB4.out.size))).mono ?_
  rintro e w5 ⟨rfl, hb5⟩
  have HF5 := hide ((HF4.out.below (al w4 _)).below hb5)
  have HS5 := hide ((Holds.new w4 _ _ _ _ _).below hb5)
  have HB5 := hide ((HB4.out.trans ((al w4 _).mono HB4.out.size)).trans (hb5.mono (by have := HB4.out.size; simp; omega)))
  clear hb5 HK16 HB4 HF4
  go_wp2_with fail
  refine (HK16b.out _ HB5.out).mono ?_
  rintro e w6 ⟨rfl, hb6⟩
  have HF6 := hide (HF5.out.below hb6)
  have HS6 := hide (HS5.out.below hb6)
  have HB6 := hide (HB5.out.trans (hb6.mono HB5.out.size))
  clear hb6 HK16b HB5 HF5 HS5
  obtain ⟨a0, a1, a2, a3⟩ := HF6.out
  go_wp2_with fail
  refine (present_no w6).mono ?_
  rintro e w7 ⟨rfl, hb7⟩
  have HF7 := hide (HF6.out.below hb7)
  have HS7 := hide (HS6.out.below hb7)
  have HB7 := hide (HB6.out.trans (hb7.mono HB6.out.size))
  clear hb7 HB6 HF6 HS6 a0 a1 a2 a3
  obtain ⟨a0, a1, a2, a3⟩ := HS7.out
  go_wp2_with fail
  refine (present_no w7).mono ?_
  rintro e w8 ⟨rfl, hb8⟩
  have HF8 := hide (HF7.out.below hb8)
  have HS8 := hide (HS7.out.below hb8)
  have HB8 := hide (HB7.out.trans (hb8.mono HB7.out.size))
  clear hb8 HB7 HF7 HS7 a0 a1 a2 a3
  obtain ⟨a0, a1, a2, a3⟩ := HS8.out
  go_wp2
  go_ret
  exact ⟨rfl, HB8.out⟩

set_option maxRecDepth 100000 in
set_option maxHeartbeats 4000000 in
theorem sticky_rn (ao co : Option Addr) (n c c2 : Nat) (p s t : Int) (Good : World → Prop) (po : Nat → Option Addr) (p1 p2 p3 : Int) (u0 u4 : Bool) (u1 u2 u3 : Int) (x0 x1 x2 : Bool) (w : World) (hn : n ≤ 1048576) (hs : 0 ≤ s) (ht : 0 ≤ t)
    (G : ∀ w1, Good w1 → Below w.heap.size w w1)
    (K8 : Calls Tryf.prog 8 #[.slice ao n c] w fun e w' => e = .returned (.slice co n c2) ∧ Good w')
    (K10 : ∀ w1, Good w1 → Calls Tryf.prog 10 #[.pointer (some ⟨w1.heap.size, 0, none⟩), .int .i64 p] (w1.alloc (bufObj co n c2)) fun e w' => e = .returned (.agg #[.pointer (po w1.heap.size), .int .i64 p1, .int .i64 p2, .int .i64 p3]) ∧ Kept w1.heap.size (w1.alloc (bufObj co n c2)) w' ∧ ErrIs w' w1.heap.size x0)
    (K15 : ∀ w1 w2, Good w1 → Kept w1.heap.size (w1.alloc (bufObj co n c2)) w2 → ErrIs w2 w1.heap.size x0 → Calls Tryf.prog 15 #[.agg #[.pointer (po w1.heap.size), .int .i64 p1, .int .i64 p2, .int .i64 p3], .int .i64 s] w2 fun e w' => e = .returned (.agg #[.pointer none, .int .i64 0, .int .i64 0, .int .i64 0]) ∧ Kept w1.heap.size w2 w' ∧ ErrIs w' w1.heap.size x1)
    (K15b : ∀ w1 w2, Good w1 → Kept w1.heap.size (w1.alloc (bufObj co n c2)) w2 → ErrIs w2 w1.heap.size x1 → Calls Tryf.prog 15 #[.agg #[.pointer (po w1.heap.size), .int .i64 p1, .int .i64 p2, .int .i64 p3], .int .i64 t] w2 fun e w' => e = .returned (.agg #[.pointer none, .int .i64 0, .int .i64 0, .int .i64 0]) ∧ Kept w1.heap.size w2 w' ∧ ErrIs w' w1.heap.size x2)
    (K16 : ∀ w1, Below w.heap.size w w1 → Calls Tryf.prog 16 #[.slice ao n c, .int .i64 p, .int .i64 s] w1 fun e w' => e = .returned (.tuple #[.bool false, .int .i64 0, .int .i64 0, .int .i64 0, .bool true]) ∧ Below w1.heap.size w1 w')
    (K16b : ∀ w1, Below w.heap.size w w1 → Calls Tryf.prog 16 #[.slice ao n c, .int .i64 p, .int .i64 t] w1 fun e w' => e = .returned (.tuple #[.bool u0, .int .i64 u1, .int .i64 u2, .int .i64 u3, .bool u4]) ∧ Below w1.heap.size w1 w') :
    Calls Tryf.prog 6 #[.slice ao n c, .int .i64 p, .int .i64 s, .int .i64 t] w fun e w' => e = .returned (.bool true) ∧ Below w.heap.size w w' := by
  have K21 := small6 ao n c p s t w hn
  have HG := hide G
  have HK10 := hide K10
  have HK15 := hide K15
  have HK15b := hide K15b
  have HK16 := hide K16
  have HK16b := hide K16b
  clear G K10 K15 K15b K16 K16b
  go_enter Tryf.func6, Tryf.ntmps6
  go_wp2_with fail
  refine K21.mono ?_
  rintro e w' ⟨rfl, hw'⟩
  subst w'
  go_wp2_with fail
  refine K8.mono ?_
  rintro e w1 ⟨rfl, hg⟩
  have HGo := hide hg
  have hsz := (HG.out w1 hg).size
  clear hg K8 K21
  go_wp2_with fail
  refine (newBuffer co n c2 w1).mono ?_
  rintro e w' ⟨rfl, hw'⟩
  subst w'
  go_wp2_with fail
  refine (HK10.out w1 HGo.out).mono ?_
  rintro e w2 ⟨rfl, hk2, he2⟩
  have HK2 := hide hk2
  have HE2 := hide he2
  have z2 : w1.heap.size < w2.heap.size := by have := hk2.size; simp at this; omega
  clear hk2 he2 HK10
  go_wp2_with fail
  refine (HK15.out w1 _ HGo.out (HK2.out.trans (Kept.of_below (al w2 _))) (HE2.out.below (al w2 _))).mono ?_
  rintro e w3 ⟨rfl, hk3, he3⟩
  have HP3 := hide ((Holds.new w2 _ _ _ _ _).kept hk3 (by omega))
  have HK3 := hide ((HK2.out.trans (Kept.of_below (al w2 _))).trans hk3)
  have HE3 := hide he3
  have z3 : w2.heap.size < w3.heap.size := by have := hk3.size; simp at this; omega
  clear hk3 he3 HK15 HK2 HE2
  obtain ⟨a0, a1, a2, a3⟩ := HP3.out.below (al w3 (.cells #[.pointer none, .int .i64 0, .int .i64 0, .int .i64 0] 28))
  go_wp2_with fail
  refine (HK15b.out w1 _ HGo.out (HK3.out.trans (Kept.of_below (al w3 _))) (HE3.out.below (al w3 _))).mono ?_
  rintro e w4 ⟨rfl, hk4, he4⟩
  have HF4 := hide ((Holds.new w3 _ _ _ _ _).kept hk4 (by omega))
  have hk5 := (HK3.out.trans (Kept.of_below (al w3 _))).trans hk4
  have HB4 := hide (((HG.out w1 HGo.out).trans ((al w1 _).mono hsz)).trans (hk5.below (B := w.heap.size) hsz (by simp; omega)))
  have z4 : w3.heap.size < w4.heap.size := by have := hk4.size; simp at this; omega
  clear hk4 he4 hk5 HK15b HK3 HE3 HP3 a0 a1 a2 a3 HG HGo
  go_wp2_with fail
  refine (HK16.out _ (HB4.out.trans ((al w4 _).mono HB4.out.size))).mono ?_
  rintro e w5 ⟨rfl, hb5⟩
  have HF5 := hide ((HF4.out.below (al w4 _)).below hb5)
  have HS5 := hide ((Holds.new w4 _ _ _ _ _).below hb5)
  have HB5 := hide ((HB4.out.trans ((al w4 _).mono HB4.out.size)).trans (hb5.mono (by have := HB4.out.size; simp; omega)))
  clear hb5 HK16 HB4 HF4
  go_wp2_with fail
  refine (HK16b.out _ HB5.out).mono ?_
  rintro e w6 ⟨rfl, hb6⟩
  have HF6 := hide (HF5.out.below hb6)
  have HS6 := hide (HS5.out.below hb6)
  have HB6 := hide (HB5.out.trans (hb6.mono HB5.out.size))
  clear hb6 HK16b HB5 HF5 HS5
  obtain ⟨a0, a1, a2, a3⟩ := HF6.out
  go_wp2_with fail
  refine (present_no w6).mono ?_
  rintro e w7 ⟨rfl, hb7⟩
  have HF7 := hide (HF6.out.below hb7)
  have HS7 := hide (HS6.out.below hb7)
  have HB7 := hide (HB6.out.trans (hb7.mono HB6.out.size))
  clear hb7 HB6 HF6 HS6 a0 a1 a2 a3
  obtain ⟨a0, a1, a2, a3⟩ := HS7.out
  go_wp2_with fail
  refine (present_no w7).mono ?_
  rintro e w8 ⟨rfl, hb8⟩
  have HF8 := hide (HF7.out.below hb8)
  have HS8 := hide (HS7.out.below hb8)
  have HB8 := hide (HB7.out.trans (hb8.mono HB7.out.size))
  clear hb8 HB7 HF7 HS7 a0 a1 a2 a3
  obtain ⟨a0, a1, a2, a3⟩ := HS8.out
  go_wp2
  go_ret
  exact ⟨rfl, HB8.out⟩

end Go.Proofs.Qxb6617024aFmt

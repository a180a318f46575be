import Derived.Test.Qxb6617024aFmtUb
import Derived.LaidEqlPtr
namespace Go.Proofs.Qxb6617024aFmt
open Go.RowKit Go.Extern.Stop Go.Stop Go.Extern

theorem eq_ptr (b : Nat) (w : World) : (binOp BinOp.eql 25 (.pointer (some ⟨b, 0, none⟩)) (.pointer (some ⟨b, 0, none⟩))).run Tryf.prog w = .ok (.bool true) w := run_eql_ptr_same w ⟨b, 0, none⟩ Tryf.underlying25 (j := (Tryf.prog.info? 43).get!) (by kernel_rfl)

set_option maxHeartbeats 800000 in
theorem law5_big (ao : Option Addr) (n c : Nat) (p s : Int) (w : World) (hn : 1048576 < n) :
    Calls Tryf.prog 5 #[.slice ao n c, .int .i64 p, .int .i64 s] w fun e w' => e = .returned (.bool true) ∧ Below w.heap.size w w' := by
  have K14 := big5 ao n c p s w hn
  go_enter Tryf.func5, Tryf.ntmps5
  go_wp2_with fail
  refine K14.mono ?_
  rintro e w' ⟨rfl, hw'⟩
  subst w'
  go_wp2
  go_ret
  exact ⟨rfl, Below.refl _ _⟩
set_option maxHeartbeats 800000 in
theorem law5_s (ao : Option Addr) (n c : Nat) (p s : Int) (w : World) (hn : n ≤ 1048576) (hs : s < 0) :
    Calls Tryf.prog 5 #[.slice ao n c, .int .i64 p, .int .i64 s] w fun e w' => e = .returned (.bool true) ∧ Below w.heap.size w w' := by
  have K14 := small5 ao n c p s w hn
  go_enter Tryf.func5, Tryf.ntmps5
  go_wp2_with fail
  refine K14.mono ?_
  rintro e w' ⟨rfl, hw'⟩
  subst w'
  go_wp2
  go_ret
  exact ⟨rfl, Below.refl _ _⟩

set_option maxRecDepth 100000 in
set_option maxHeartbeats 4000000 in
theorem follow_n (ao co : Option Addr) (n c c2 : Nat) (p s : Int) (Good : World → Prop) (po : Nat → Option Addr) (p1 p2 p3 : Int) (u : Bool) (x0 x1 : Bool) (w : World) (hn : n ≤ 1048576) (hs : 0 ≤ s)
    (G : ∀ w1, Good w1 → Below w.heap.size w w1)
    (K8 : Calls Tryf.prog 8 #[.slice ao n c] w fun e w' => e = .returned (.slice co n c2) ∧ Good w')
    (K10 : ∀ w1, Good w1 → Calls Tryf.prog 10 #[.pointer (some ⟨w1.heap.size, 0, none⟩), .int .i64 p] (w1.alloc (bufObj co n c2)) fun e w' => e = .returned (.agg #[.pointer (po w1.heap.size), .int .i64 p1, .int .i64 p2, .int .i64 p3]) ∧ Kept w1.heap.size (w1.alloc (bufObj co n c2)) w' ∧ ErrIs w' w1.heap.size x0)
    (K15 : ∀ w1 w2, Good w1 → Kept w1.heap.size (w1.alloc (bufObj co n c2)) w2 → ErrIs w2 w1.heap.size x0 → Calls Tryf.prog 15 #[.agg #[.pointer (po w1.heap.size), .int .i64 p1, .int .i64 p2, .int .i64 p3], .int .i64 s] w2 fun e w' => e = .returned (.agg #[.pointer none, .int .i64 0, .int .i64 0, .int .i64 0]) ∧ Kept w1.heap.size w2 w' ∧ ErrIs w' w1.heap.size x1)
    (K16 : ∀ w1, Below w.heap.size w w1 → Calls Tryf.prog 16 #[.slice ao n c, .int .i64 p, .int .i64 s] w1 fun e w' => e = .returned (.tuple #[.bool false, .int .i64 0, .int .i64 0, .int .i64 0, .bool u]) ∧ Below w1.heap.size w1 w') :
    Calls Tryf.prog 5 #[.slice ao n c, .int .i64 p, .int .i64 s] w fun e w' => e = .returned (.bool true) ∧ Below w.heap.size w w' := by
  have K14 := small5 ao n c p s w hn
  
  have HG := hide G
  have HK10 := hide K10
  have HK15 := hide K15
  have HK16 := hide K16
  
  clear G K10 K15 K16 
  go_enter Tryf.func5, Tryf.ntmps5
  go_wp2_with fail
  refine K14.mono ?_
  rintro e w' ⟨rfl, hw'⟩
  subst w'
  go_wp2_with fail
  refine K8.mono ?_
  rintro e w1 ⟨rfl, hg⟩
  have HGo := hide hg
  have hsz := (HG.out w1 hg).size
  clear hg K8 K14
  go_wp2_with fail
  refine (newBuffer co n c2 w1).mono ?_
  rintro e w' ⟨rfl, hw'⟩
  subst w'
  go_wp2_with fail
  refine (HK10.out w1 HGo.out).mono ?_
  rintro e w2 ⟨rfl, hk2, he2⟩
  have HK2 := hide hk2
  have HE2 := hide he2
  have z2 : w1.heap.size < w2.heap.size := by have := hk2.size; simp at this; omega
  clear hk2 he2 HK10
  go_wp2_with fail
  refine (HK15.out w1 _ HGo.out (HK2.out.trans (Kept.of_below (al w2 _))) (HE2.out.below (al w2 _))).mono ?_
  rintro e w3 ⟨rfl, hk3, he3⟩
  have HK3 := hide ((HK2.out.trans (Kept.of_below (al w2 _))).trans hk3)
  have z3 : w2.heap.size < w3.heap.size := by have := hk3.size; simp at this; omega
  have HB3 := hide (((HG.out w1 HGo.out).trans ((al w1 _).mono hsz)).trans (HK3.out.below (B := w.heap.size) hsz (by simp; omega)))
  clear hk3 he3 HK15 HK2 HE2 HG
  go_wp2_with fail
  refine (HK16.out _ (HB3.out.trans ((al w3 _).mono HB3.out.size))).mono ?_
  rintro e w4 ⟨rfl, hb4⟩
  have HF4 := hide ((Holds.new w3 _ _ _ _ _).below hb4)
  have HB4 := hide ((HB3.out.trans ((al w3 _).mono HB3.out.size)).trans (hb4.mono (by have := HB3.out.size; simp; omega)))
  have z4 : w3.heap.size < w4.heap.size := by have := hb4.size; simp at this; omega
  clear hb4 HK16 HB3 HK3 HGo
  obtain ⟨a0, a1, a2, a3⟩ := HF4.out
  go_wp2_with fail
  refine (present_no w4).mono ?_
  rintro e w5 ⟨rfl, hb5⟩
  have HF5 := hide (HF4.out.below hb5)
  have HB5 := hide (HB4.out.trans (hb5.mono HB4.out.size))
  clear hb5 HB4 HF4 a0 a1 a2 a3
  obtain ⟨a0, a1, a2, a3⟩ := HF5.out
  go_wp2_with fail
  refine (getPos _ _ _ _ w5).mono ?_
  rintro e w6 ⟨rfl, hb6⟩
  have HF6 := hide (HF5.out.below hb6)
  have HB6 := hide (HB5.out.trans (hb6.mono HB5.out.size))
  clear hb6 HB5 HF5 a0 a1 a2 a3
  obtain ⟨a0, a1, a2, a3⟩ := HF6.out
  go_wp2_with fail
  refine (getVt _ _ _ _ w6).mono ?_
  rintro e w7 ⟨rfl, hb7⟩
  have HF7 := hide (HF6.out.below hb7)
  have HB7 := hide (HB6.out.trans (hb7.mono HB6.out.size))
  clear hb7 HB6 HF6 a0 a1 a2 a3
  obtain ⟨a0, a1, a2, a3⟩ := HF7.out
  go_wp2_with fail
  refine (getSlots _ _ _ _ w7).mono ?_
  rintro e w8 ⟨rfl, hb8⟩
  have HF8 := hide (HF7.out.below hb8)
  have HB8 := hide (HB7.out.trans (hb8.mono HB7.out.size))
  clear hb8 HB7 HF7 a0 a1 a2 a3
  obtain ⟨a0, a1, a2, a3⟩ := HF8.out
  go_wp2
  go_ret
  exact ⟨rfl, HB8.out⟩

set_option maxRecDepth 100000 in
set_option maxHeartbeats 4000000 in
theorem follow_f (ao co : Option Addr) (n c c2 : Nat) (p s : Int) (Good : World → Prop) (po : Nat → Option Addr) (p1 p2 p3 : Int) (f1 f2 f3 : Int) (x0 x1 : Bool) (w : World) (hn : n ≤ 1048576) (hs : 0 ≤ s)
    (G : ∀ w1, Good w1 → Below w.heap.size w w1)
    (K8 : Calls Tryf.prog 8 #[.slice ao n c] w fun e w' => e = .returned (.slice co n c2) ∧ Good w')
    (K10 : ∀ w1, Good w1 → Calls Tryf.prog 10 #[.pointer (some ⟨w1.heap.size, 0, none⟩), .int .i64 p] (w1.alloc (bufObj co n c2)) fun e w' => e = .returned (.agg #[.pointer (po w1.heap.size), .int .i64 p1, .int .i64 p2, .int .i64 p3]) ∧ Kept w1.heap.size (w1.alloc (bufObj co n c2)) w' ∧ ErrIs w' w1.heap.size x0)
    (K15 : ∀ w1 w2, Good w1 → Kept w1.heap.size (w1.alloc (bufObj co n c2)) w2 → ErrIs w2 w1.heap.size x0 → Calls Tryf.prog 15 #[.agg #[.pointer (po w1.heap.size), .int .i64 p1, .int .i64 p2, .int .i64 p3], .int .i64 s] w2 fun e w' => e = .returned (.agg #[.pointer (some ⟨w1.heap.size, 0, none⟩), .int .i64 f1, .int .i64 f2, .int .i64 f3]) ∧ Kept w1.heap.size w2 w' ∧ ErrIs w' w1.heap.size x1)
    (K16 : ∀ w1, Below w.heap.size w w1 → Calls Tryf.prog 16 #[.slice ao n c, .int .i64 p, .int .i64 s] w1 fun e w' => e = .returned (.tuple #[.bool true, .int .i64 f1, .int .i64 f2, .int .i64 f3, .bool false]) ∧ Below w1.heap.size w1 w')
    (K10b : ∀ w1 w2, Good w1 → Kept w1.heap.size (w1.alloc (bufObj co n c2)) w2 → Calls Tryf.prog 10 #[.pointer (some ⟨w2.heap.size, 0, none⟩), .int .i64 f1] (w2.alloc (bufObj co n c2)) fun e w' => e = .returned (.agg #[.pointer (some ⟨w2.heap.size, 0, none⟩), .int .i64 f1, .int .i64 f2, .int .i64 f3]) ∧ Kept w2.heap.size (w2.alloc (bufObj co n c2)) w') :
    Calls Tryf.prog 5 #[.slice ao n c, .int .i64 p, .int .i64 s] w fun e w' => e = .returned (.bool true) ∧ Below w.heap.size w w' := by
  have K14 := small5 ao n c p s w hn
  have hptr := eq_ptr
  have HG := hide G
  have HK10 := hide K10
  have HK15 := hide K15
  have HK16 := hide K16
  have HK10b := hide K10b
  clear G K10 K15 K16 K10b
  go_enter Tryf.func5, Tryf.ntmps5
  go_wp2_with fail
  refine K14.mono ?_
  rintro e w' ⟨rfl, hw'⟩
  subst w'
  go_wp2_with fail
  refine K8.mono ?_
  rintro e w1 ⟨rfl, hg⟩
  have HGo := hide hg
  have hsz := (HG.out w1 hg).size
  clear hg K8 K14
  go_wp2_with fail
  refine (newBuffer co n c2 w1).mono ?_
  rintro e w' ⟨rfl, hw'⟩
  subst w'
  go_wp2_with fail
  refine (HK10.out w1 HGo.out).mono ?_
  rintro e w2 ⟨rfl, hk2, he2⟩
  have HK2 := hide hk2
  have HE2 := hide he2
  have z2 : w1.heap.size < w2.heap.size := by have := hk2.size; simp at this; omega
  clear hk2 he2 HK10
  go_wp2_with fail
  refine (HK15.out w1 _ HGo.out (HK2.out.trans (Kept.of_below (al w2 _))) (HE2.out.below (al w2 _))).mono ?_
  rintro e w3 ⟨rfl, hk3, he3⟩
  have HK3 := hide ((HK2.out.trans (Kept.of_below (al w2 _))).trans hk3)
  have z3 : w2.heap.size < w3.heap.size := by have := hk3.size; simp at this; omega
  have HB3 := hide (((HG.out w1 HGo.out).trans ((al w1 _).mono hsz)).trans (HK3.out.below (B := w.heap.size) hsz (by simp; omega)))
  clear hk3 he3 HK15 HK2 HE2 HG
  go_wp2_with fail
  refine (HK16.out _ (HB3.out.trans ((al w3 _).mono HB3.out.size))).mono ?_
  rintro e w4 ⟨rfl, hb4⟩
  have HF4 := hide ((Holds.new w3 _ _ _ _ _).below hb4)
  have HB4 := hide ((HB3.out.trans ((al w3 _).mono HB3.out.size)).trans (hb4.mono (by have := HB3.out.size; simp; omega)))
  have z4 : w3.heap.size < w4.heap.size := by have := hb4.size; simp at this; omega
  have HK4 := hide ((HK3.out.trans (Kept.of_below (al w3 _))).trans (Kept.of_below hb4))
  clear hb4 HK16 HB3 HK3
  go_wp2_with fail
  refine (newBuffer co n c2 w4).mono ?_
  rintro e w' ⟨rfl, hw'⟩
  subst w'
  go_wp2_with fail
  refine (HK10b.out w1 w4 HGo.out HK4.out).mono ?_
  rintro e w5 ⟨rfl, hk5⟩
  have z5 : w4.heap.size < w5.heap.size := by have := hk5.size; simp at this; omega
  have HF5 := hide (((HF4.out.below (al w4 _)).kept hk5 (by omega)).below (al w5 (.cells #[.pointer (some ⟨w4.heap.size, 0, none⟩), .int .i64 f1, .int .i64 f2, .int .i64 f3] 28)))
  have HS5 := hide (Holds.new w5 (.pointer (some ⟨w4.heap.size, 0, none⟩)) (.int .i64 f1) (.int .i64 f2) (.int .i64 f3) 28)
  have hb5 : Below w.heap.size w w5 := (HB4.out.trans ((al w4 _).mono HB4.out.size)).trans (hk5.below (B := w.heap.size) HB4.out.size (by have := HB4.out.size; simp; omega))
  have HB5 := hide (hb5.trans ((al w5 (.cells #[.pointer (some ⟨w4.heap.size, 0, none⟩), .int .i64 f1, .int .i64 f2, .int .i64 f3] 28)).mono hb5.size))
  clear hk5 hb5 HK10b HK4 HB4 HF4 HGo
  obtain ⟨a0, a1, a2, a3⟩ := HF5.out
  go_wp2_with fail
  refine (present_yes_any _ _ _ _ _).mono ?_
  rintro e w6 ⟨rfl, hb6⟩
  have HF6 := hide (HF5.out.below hb6)
  have HS6 := hide (HS5.out.below hb6)
  have HB6 := hide (HB5.out.trans (hb6.mono HB5.out.size))
  clear hb6 HB5 HF5 HS5 a0 a1 a2 a3
  obtain ⟨a0, a1, a2, a3⟩ := HS6.out
  go_wp2_with fail
  refine (present_yes_any _ _ _ _ w6).mono ?_
  rintro e w7 ⟨rfl, hb7⟩
  have HF7 := hide (HF6.out.below hb7)
  have HS7 := hide (HS6.out.below hb7)
  have HB7 := hide (HB6.out.trans (hb7.mono HB6.out.size))
  clear hb7 HB6 HF6 HS6 a0 a1 a2 a3
  obtain ⟨a0, a1, a2, a3⟩ := HF7.out
  go_wp2_with fail
  refine (getBuf _ _ _ _ w7).mono ?_
  rintro e w8 ⟨rfl, hb8⟩
  have HF8 := hide (HF7.out.below hb8)
  have HS8 := hide (HS7.out.below hb8)
  have HB8 := hide (HB7.out.trans (hb8.mono HB7.out.size))
  clear hb8 HB7 HF7 HS7 a0 a1 a2 a3
  obtain ⟨a0, a1, a2, a3⟩ := HF8.out
  go_wp2_with fail
  refine (getPos _ _ _ _ w8).mono ?_
  rintro e w9 ⟨rfl, hb9⟩
  have HF9 := hide (HF8.out.below hb9)
  have HS9 := hide (HS8.out.below hb9)
  have HB9 := hide (HB8.out.trans (hb9.mono HB8.out.size))
  clear hb9 HB8 HF8 HS8 a0 a1 a2 a3
  obtain ⟨a0, a1, a2, a3⟩ := HS9.out
  go_wp2_with fail
  refine (getPos _ _ _ _ w9).mono ?_
  rintro e w10 ⟨rfl, hb10⟩
  have HF10 := hide (HF9.out.below hb10)
  have HS10 := hide (HS9.out.below hb10)
  have HB10 := hide (HB9.out.trans (hb10.mono HB9.out.size))
  clear hb10 HB9 HF9 HS9 a0 a1 a2 a3
  obtain ⟨a0, a1, a2, a3⟩ := HF10.out
  go_wp2_with fail
  refine (getVt _ _ _ _ w10).mono ?_
  rintro e w11 ⟨rfl, hb11⟩
  have HF11 := hide (HF10.out.below hb11)
  have HS11 := hide (HS10.out.below hb11)
  have HB11 := hide (HB10.out.trans (hb11.mono HB10.out.size))
  clear hb11 HB10 HF10 HS10 a0 a1 a2 a3
  obtain ⟨a0, a1, a2, a3⟩ := HS11.out
  go_wp2_with fail
  refine (getVt _ _ _ _ w11).mono ?_
  rintro e w12 ⟨rfl, hb12⟩
  have HF12 := hide (HF11.out.below hb12)
  have HS12 := hide (HS11.out.below hb12)
  have HB12 := hide (HB11.out.trans (hb12.mono HB11.out.size))
  clear hb12 HB11 HF11 HS11 a0 a1 a2 a3
  obtain ⟨a0, a1, a2, a3⟩ := HF12.out
  go_wp2_with fail
  refine (getSlots _ _ _ _ w12).mono ?_
  rintro e w13 ⟨rfl, hb13⟩
  have HF13 := hide (HF12.out.below hb13)
  have HS13 := hide (HS12.out.below hb13)
  have HB13 := hide (HB12.out.trans (hb13.mono HB12.out.size))
  clear hb13 HB12 HF12 HS12 a0 a1 a2 a3
  obtain ⟨a0, a1, a2, a3⟩ := HS13.out
  go_wp2_with fail
  refine (getSlots _ _ _ _ w13).mono ?_
  rintro e w14 ⟨rfl, hb14⟩
  have HF14 := hide (HF13.out.below hb14)
  have HS14 := hide (HS13.out.below hb14)
  have HB14 := hide (HB13.out.trans (hb14.mono HB13.out.size))
  clear hb14 HB13 HF13 HS13 a0 a1 a2 a3
  obtain ⟨a0, a1, a2, a3⟩ := HS14.out
  go_wp2
  go_ret
  exact ⟨rfl, HB14.out⟩

end Go.Proofs.Qxb6617024aFmt

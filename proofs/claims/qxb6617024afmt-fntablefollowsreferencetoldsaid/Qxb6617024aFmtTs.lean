import Derived.Test.Qxb6617024aFmtTi
namespace Go.Proofs.Qxb6617024aFmt
open Go.RowKit Go.Extern.Stop Go.Stop Go.Extern

theorem hide' {p : Prop} (h : p) : Hid p := h

set_option maxHeartbeats 1600000 in
theorem child_a (n c : Nat) (p s : Int) (ao : Option Addr) (w : World) 
    (C1 : Calls Tryf.prog 12 #[.slice ao n c, .int .i64 p] w fun e w' => e = .returned (.tuple #[.bool false, .int .i64 0, .int .i64 0]) ∧ Below w.heap.size w w') :
    Calls Tryf.prog 16 #[.slice ao n c, .int .i64 p, .int .i64 s] w fun e w' => e = .returned (.tuple #[.bool false, .int .i64 0, .int .i64 0, .int .i64 0, .bool false]) ∧ Below w.heap.size w w' := by
  go_enter Tryf.func16, Tryf.ntmps16
  go_wp2_with fail
  refine C1.mono ?_
  rintro e w1 ⟨rfl, hb1⟩
  have HB1 := hide' hb1
  clear hb1 C1
  go_wp2
  refine bodyPost_ret (v := .tuple #[.bool false, .int .i64 0, .int .i64 0, .int .i64 0, .bool false]) (by simp [results, Tryf.results16, go_sem]) rfl ⟨rfl, HB1.out⟩
set_option maxHeartbeats 1600000 in
theorem child_b (n c : Nat) (p s vt sl : Int) (ao : Option Addr) (w : World) (h0 : 0 ≤ s) (k1 : sl ≤ s) 
    (C1 : Calls Tryf.prog 12 #[.slice ao n c, .int .i64 p] w fun e w' => e = .returned (.tuple #[.bool true, .int .i64 vt, .int .i64 sl]) ∧ Below w.heap.size w w') :
    Calls Tryf.prog 16 #[.slice ao n c, .int .i64 p, .int .i64 s] w fun e w' => e = .returned (.tuple #[.bool false, .int .i64 0, .int .i64 0, .int .i64 0, .bool false]) ∧ Below w.heap.size w w' := by
  go_enter Tryf.func16, Tryf.ntmps16
  go_wp2_with fail
  refine C1.mono ?_
  rintro e w1 ⟨rfl, hb1⟩
  have HB1 := hide' hb1
  clear hb1 C1
  go_wp2
  refine bodyPost_ret (v := .tuple #[.bool false, .int .i64 0, .int .i64 0, .int .i64 0, .bool false]) (by simp [results, Tryf.results16, go_sem]) rfl ⟨rfl, HB1.out⟩
set_option maxHeartbeats 1600000 in
theorem child_c (n c : Nat) (p s vt sl : Int) (ao : Option Addr) (w : World) (hs : n ≤ 1048576) (h0 : 0 ≤ s) (l : 0 ≤ p ∧ p ≤ (n : Int) - 4) (l3 : 0 ≤ vt) (l4 : vt ≤ n) (k1 : s < sl) (k2 : sl ≤ 32768) 
    (C1 : Calls Tryf.prog 12 #[.slice ao n c, .int .i64 p] w fun e w' => e = .returned (.tuple #[.bool true, .int .i64 vt, .int .i64 sl]) ∧ Below w.heap.size w w')
    (C2 : ∀ w1, Below w.heap.size w w1 → Calls Tryf.prog 24 #[.slice ao n c, .int .i64 (vt + 4 + 2 * s)] w1 fun e w' => e = .returned (.int .i64 0) ∧ Below w1.heap.size w1 w') :
    Calls Tryf.prog 16 #[.slice ao n c, .int .i64 p, .int .i64 s] w fun e w' => e = .returned (.tuple #[.bool false, .int .i64 0, .int .i64 0, .int .i64 0, .bool false]) ∧ Below w.heap.size w w' := by
  obtain ⟨l1, l2⟩ := l
  go_enter Tryf.func16, Tryf.ntmps16
  go_wp2_with fail
  refine C1.mono ?_
  rintro e w1 ⟨rfl, hb1⟩
  have HB1 := hide' hb1
  clear hb1 C1
  go_wp2_with fail
  refine (C2 _ HB1.out).mono ?_
  rintro e w2 ⟨rfl, hb2⟩
  have HB2 := hide' (HB1.out.trans (hb2.mono HB1.out.size))
  clear hb2 C2 HB1
  go_wp2
  refine bodyPost_ret (v := .tuple #[.bool false, .int .i64 0, .int .i64 0, .int .i64 0, .bool false]) (by simp [results, Tryf.results16, go_sem]) rfl ⟨rfl, HB2.out⟩
set_option maxHeartbeats 1600000 in
theorem child_d (n c : Nat) (p s vt sl off : Int) (ao : Option Addr) (w : World) (hs : n ≤ 1048576) (h0 : 0 ≤ s) (l : 0 ≤ p ∧ p ≤ (n : Int) - 4) (l3 : 0 ≤ vt) (l4 : vt ≤ n) (k1 : s < sl) (k2 : sl ≤ 32768) (o1 : 0 < off) (o2 : off < 4) 
    (C1 : Calls Tryf.prog 12 #[.slice ao n c, .int .i64 p] w fun e w' => e = .returned (.tuple #[.bool true, .int .i64 vt, .int .i64 sl]) ∧ Below w.heap.size w w')
    (C2 : ∀ w1, Below w.heap.size w w1 → Calls Tryf.prog 24 #[.slice ao n c, .int .i64 (vt + 4 + 2 * s)] w1 fun e w' => e = .returned (.int .i64 off) ∧ Below w1.heap.size w1 w') :
    Calls Tryf.prog 16 #[.slice ao n c, .int .i64 p, .int .i64 s] w fun e w' => e = .returned (.tuple #[.bool false, .int .i64 0, .int .i64 0, .int .i64 0, .bool true]) ∧ Below w.heap.size w w' := by
  obtain ⟨l1, l2⟩ := l
  go_enter Tryf.func16, Tryf.ntmps16
  go_wp2_with fail
  refine C1.mono ?_
  rintro e w1 ⟨rfl, hb1⟩
  have HB1 := hide' hb1
  clear hb1 C1
  go_wp2_with fail
  refine (C2 _ HB1.out).mono ?_
  rintro e w2 ⟨rfl, hb2⟩
  have HB2 := hide' (HB1.out.trans (hb2.mono HB1.out.size))
  clear hb2 C2 HB1
  go_wp2
  refine bodyPost_ret (v := .tuple #[.bool false, .int .i64 0, .int .i64 0, .int .i64 0, .bool true]) (by simp [results, Tryf.results16, go_sem]) rfl ⟨rfl, HB2.out⟩
set_option maxHeartbeats 1600000 in
theorem child_e (n c : Nat) (p s vt sl off : Int) (ao : Option Addr) (w : World) (hs : n ≤ 1048576) (h0 : 0 ≤ s) (l : 0 ≤ p ∧ p ≤ (n : Int) - 4) (l3 : 0 ≤ vt) (l4 : vt ≤ n) (k1 : s < sl) (k2 : sl ≤ 32768) (o1 : 4 ≤ off) (o2 : (n : Int) - p - 4 < off) (o3 : off ≤ 65535) 
    (C1 : Calls Tryf.prog 12 #[.slice ao n c, .int .i64 p] w fun e w' => e = .returned (.tuple #[.bool true, .int .i64 vt, .int .i64 sl]) ∧ Below w.heap.size w w')
    (C2 : ∀ w1, Below w.heap.size w w1 → Calls Tryf.prog 24 #[.slice ao n c, .int .i64 (vt + 4 + 2 * s)] w1 fun e w' => e = .returned (.int .i64 off) ∧ Below w1.heap.size w1 w') :
    Calls Tryf.prog 16 #[.slice ao n c, .int .i64 p, .int .i64 s] w fun e w' => e = .returned (.tuple #[.bool false, .int .i64 0, .int .i64 0, .int .i64 0, .bool true]) ∧ Below w.heap.size w w' := by
  obtain ⟨l1, l2⟩ := l
  go_enter Tryf.func16, Tryf.ntmps16
  go_wp2_with fail
  refine C1.mono ?_
  rintro e w1 ⟨rfl, hb1⟩
  have HB1 := hide' hb1
  clear hb1 C1
  go_wp2_with fail
  refine (C2 _ HB1.out).mono ?_
  rintro e w2 ⟨rfl, hb2⟩
  have HB2 := hide' (HB1.out.trans (hb2.mono HB1.out.size))
  clear hb2 C2 HB1
  go_wp2
  refine bodyPost_ret (v := .tuple #[.bool false, .int .i64 0, .int .i64 0, .int .i64 0, .bool true]) (by simp [results, Tryf.results16, go_sem]) rfl ⟨rfl, HB2.out⟩
set_option maxHeartbeats 1600000 in
theorem child_f (n c : Nat) (p s vt sl off rel : Int) (ao : Option Addr) (w : World) (hs : n ≤ 1048576) (h0 : 0 ≤ s) (l : 0 ≤ p ∧ p ≤ (n : Int) - 4) (l3 : 0 ≤ vt) (l4 : vt ≤ n) (k1 : s < sl) (k2 : sl ≤ 32768) (o1 : 4 ≤ off) (o2 : off ≤ (n : Int) - p - 4) (o3 : off ≤ 65535) (r0 : 0 ≤ rel) (r1 : rel ≤ 4294967295) (r2 : (n : Int) - (p + off) ≤ rel) 
    (C1 : Calls Tryf.prog 12 #[.slice ao n c, .int .i64 p] w fun e w' => e = .returned (.tuple #[.bool true, .int .i64 vt, .int .i64 sl]) ∧ Below w.heap.size w w')
    (C2 : ∀ w1, Below w.heap.size w w1 → Calls Tryf.prog 24 #[.slice ao n c, .int .i64 (vt + 4 + 2 * s)] w1 fun e w' => e = .returned (.int .i64 off) ∧ Below w1.heap.size w1 w')
    (C3 : ∀ w1, Below w.heap.size w w1 → Calls Tryf.prog 23 #[.slice ao n c, .int .i64 (p + off)] w1 fun e w' => e = .returned (.int .u32 rel) ∧ Below w1.heap.size w1 w') :
    Calls Tryf.prog 16 #[.slice ao n c, .int .i64 p, .int .i64 s] w fun e w' => e = .returned (.tuple #[.bool false, .int .i64 0, .int .i64 0, .int .i64 0, .bool true]) ∧ Below w.heap.size w w' := by
  obtain ⟨l1, l2⟩ := l
  go_enter Tryf.func16, Tryf.ntmps16
  go_wp2_with fail
  refine C1.mono ?_
  rintro e w1 ⟨rfl, hb1⟩
  have HB1 := hide' hb1
  clear hb1 C1
  go_wp2_with fail
  refine (C2 _ HB1.out).mono ?_
  rintro e w2 ⟨rfl, hb2⟩
  have HB2 := hide' (HB1.out.trans (hb2.mono HB1.out.size))
  clear hb2 C2 HB1
  go_wp2_with fail
  refine (C3 _ HB2.out).mono ?_
  rintro e w3 ⟨rfl, hb3⟩
  have HB3 := hide' (HB2.out.trans (hb3.mono HB2.out.size))
  clear hb3 C3 HB2
  go_wp2
  refine bodyPost_ret (v := .tuple #[.bool false, .int .i64 0, .int .i64 0, .int .i64 0, .bool true]) (by simp [results, Tryf.results16, go_sem]) rfl ⟨rfl, HB3.out⟩
set_option maxHeartbeats 1600000 in
theorem child_g (n c : Nat) (p s vt sl off rel : Int) (ao : Option Addr) (w : World) (hs : n ≤ 1048576) (h0 : 0 ≤ s) (l : 0 ≤ p ∧ p ≤ (n : Int) - 4) (l3 : 0 ≤ vt) (l4 : vt ≤ n) (k1 : s < sl) (k2 : sl ≤ 32768) (o1 : 4 ≤ off) (o2 : off ≤ (n : Int) - p - 4) (o3 : off ≤ 65535) (r0 : 0 ≤ rel) (r1 : rel ≤ 4294967295) (r2 : rel < (n : Int) - (p + off)) 
    (C1 : Calls Tryf.prog 12 #[.slice ao n c, .int .i64 p] w fun e w' => e = .returned (.tuple #[.bool true, .int .i64 vt, .int .i64 sl]) ∧ Below w.heap.size w w')
    (C2 : ∀ w1, Below w.heap.size w w1 → Calls Tryf.prog 24 #[.slice ao n c, .int .i64 (vt + 4 + 2 * s)] w1 fun e w' => e = .returned (.int .i64 off) ∧ Below w1.heap.size w1 w')
    (C3 : ∀ w1, Below w.heap.size w w1 → Calls Tryf.prog 23 #[.slice ao n c, .int .i64 (p + off)] w1 fun e w' => e = .returned (.int .u32 rel) ∧ Below w1.heap.size w1 w')
    (C4 : ∀ w1, Below w.heap.size w w1 → Calls Tryf.prog 12 #[.slice ao n c, .int .i64 (p + off + rel)] w1 fun e w' => e = .returned (.tuple #[.bool false, .int .i64 0, .int .i64 0]) ∧ Below w1.heap.size w1 w') :
    Calls Tryf.prog 16 #[.slice ao n c, .int .i64 p, .int .i64 s] w fun e w' => e = .returned (.tuple #[.bool false, .int .i64 0, .int .i64 0, .int .i64 0, .bool true]) ∧ Below w.heap.size w w' := by
  obtain ⟨l1, l2⟩ := l
  go_enter Tryf.func16, Tryf.ntmps16
  go_wp2_with fail
  refine C1.mono ?_
  rintro e w1 ⟨rfl, hb1⟩
  have HB1 := hide' hb1
  clear hb1 C1
  go_wp2_with fail
  refine (C2 _ HB1.out).mono ?_
  rintro e w2 ⟨rfl, hb2⟩
  have HB2 := hide' (HB1.out.trans (hb2.mono HB1.out.size))
  clear hb2 C2 HB1
  go_wp2_with fail
  refine (C3 _ HB2.out).mono ?_
  rintro e w3 ⟨rfl, hb3⟩
  have HB3 := hide' (HB2.out.trans (hb3.mono HB2.out.size))
  clear hb3 C3 HB2
  go_wp2_with fail
  refine (C4 _ HB3.out).mono ?_
  rintro e w4 ⟨rfl, hb4⟩
  have HB4 := hide' (HB3.out.trans (hb4.mono HB3.out.size))
  clear hb4 C4 HB3
  go_wp2
  refine bodyPost_ret (v := .tuple #[.bool false, .int .i64 0, .int .i64 0, .int .i64 0, .bool true]) (by simp [results, Tryf.results16, go_sem]) rfl ⟨rfl, HB4.out⟩
set_option maxHeartbeats 1600000 in
theorem child_h (n c : Nat) (p s vt sl off rel v2 s2 : Int) (ao : Option Addr) (w : World) (hs : n ≤ 1048576) (h0 : 0 ≤ s) (l : 0 ≤ p ∧ p ≤ (n : Int) - 4) (l3 : 0 ≤ vt) (l4 : vt ≤ n) (k1 : s < sl) (k2 : sl ≤ 32768) (o1 : 4 ≤ off) (o2 : off ≤ (n : Int) - p - 4) (o3 : off ≤ 65535) (r0 : 0 ≤ rel) (r1 : rel ≤ 4294967295) (r2 : rel < (n : Int) - (p + off)) 
    (C1 : Calls Tryf.prog 12 #[.slice ao n c, .int .i64 p] w fun e w' => e = .returned (.tuple #[.bool true, .int .i64 vt, .int .i64 sl]) ∧ Below w.heap.size w w')
    (C2 : ∀ w1, Below w.heap.size w w1 → Calls Tryf.prog 24 #[.slice ao n c, .int .i64 (vt + 4 + 2 * s)] w1 fun e w' => e = .returned (.int .i64 off) ∧ Below w1.heap.size w1 w')
    (C3 : ∀ w1, Below w.heap.size w w1 → Calls Tryf.prog 23 #[.slice ao n c, .int .i64 (p + off)] w1 fun e w' => e = .returned (.int .u32 rel) ∧ Below w1.heap.size w1 w')
    (C4 : ∀ w1, Below w.heap.size w w1 → Calls Tryf.prog 12 #[.slice ao n c, .int .i64 (p + off + rel)] w1 fun e w' => e = .returned (.tuple #[.bool true, .int .i64 v2, .int .i64 s2]) ∧ Below w1.heap.size w1 w') :
    Calls Tryf.prog 16 #[.slice ao n c, .int .i64 p, .int .i64 s] w fun e w' => e = .returned (.tuple #[.bool true, .int .i64 (p + off + rel), .int .i64 v2, .int .i64 s2, .bool false]) ∧ Below w.heap.size w w' := by
  obtain ⟨l1, l2⟩ := l
  go_enter Tryf.func16, Tryf.ntmps16
  go_wp2_with fail
  refine C1.mono ?_
  rintro e w1 ⟨rfl, hb1⟩
  have HB1 := hide' hb1
  clear hb1 C1
  go_wp2_with fail
  refine (C2 _ HB1.out).mono ?_
  rintro e w2 ⟨rfl, hb2⟩
  have HB2 := hide' (HB1.out.trans (hb2.mono HB1.out.size))
  clear hb2 C2 HB1
  go_wp2_with fail
  refine (C3 _ HB2.out).mono ?_
  rintro e w3 ⟨rfl, hb3⟩
  have HB3 := hide' (HB2.out.trans (hb3.mono HB2.out.size))
  clear hb3 C3 HB2
  go_wp2_with fail
  refine (C4 _ HB3.out).mono ?_
  rintro e w4 ⟨rfl, hb4⟩
  have HB4 := hide' (HB3.out.trans (hb4.mono HB3.out.size))
  clear hb4 C4 HB3
  go_wp2
  refine bodyPost_ret (v := .tuple #[.bool true, .int .i64 (p + off + rel), .int .i64 v2, .int .i64 s2, .bool false]) (by simp [results, Tryf.results16, go_sem]) rfl ⟨rfl, HB4.out⟩
end Go.Proofs.Qxb6617024aFmt

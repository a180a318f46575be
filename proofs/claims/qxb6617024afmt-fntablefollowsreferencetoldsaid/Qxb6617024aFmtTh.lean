import Derived.Test.Qxb6617024aFmtTg
namespace Go.Proofs.Qxb6617024aFmt
open Go.RowKit Go.Extern.Stop Go.Stop Go.Extern

set_option maxHeartbeats 1600000 in
theorem layout_ap (n c : Nat) (p b vs ts : Int) (ao : Option Addr) (w : World) (hs : n ≤ 1048576) (h0 : 0 ≤ p) (h1 : p ≤ (n : Int) - 4) (h4 : ¬ n < 4) (l1 : 0 ≤ b) (l2 : b ≤ 4294967295) (l : (0 ≤ vs ∧ vs ≤ 65535) ∧ 0 ≤ ts ∧ ts ≤ 65535) (hx : 2147483648 ≤ b) (hv2 : ¬ (p - (b - 4294967296)) < 0) (hv3 : ¬ (n : Int) - 4 < (p - (b - 4294967296)))
    (q1 : vs < 4)
    (C1 : Calls Tryf.prog 23 #[.slice ao n c, .int .i64 p] w fun e w' => e = .returned (.int .u32 b) ∧ Below w.heap.size w w')
    (C2 : ∀ w1, Below w.heap.size w w1 → Calls Tryf.prog 24 #[.slice ao n c, .int .i64 (p - (b - 4294967296))] w1 fun e w' => e = .returned (.int .i64 vs) ∧ Below w1.heap.size w1 w')
    (C3 : ∀ w1, Below w.heap.size w w1 → Calls Tryf.prog 24 #[.slice ao n c, .int .i64 ((p - (b - 4294967296)) + 2)] w1 fun e w' => e = .returned (.int .i64 ts) ∧ Below w1.heap.size w1 w') :
    Calls Tryf.prog 12 #[.slice ao n c, .int .i64 p] w fun e w' => e = .returned (.tuple #[.bool false, .int .i64 0, .int .i64 0]) ∧ Below w.heap.size w w' := by
  obtain ⟨⟨l3, l4⟩, l5, l6⟩ := l
  go_enter Tryf.func12, Tryf.ntmps12
  go_wp2_with fail
  refine C1.mono ?_
  rintro e w1 ⟨rfl, hb1⟩
  replace C2 := C2 w1 hb1
  have HB : Hid (Below w.heap.size w w1) := hb1
  clear hb1 C1
  go_wp2_with fail
  refine C2.mono ?_
  rintro e w2 ⟨rfl, hb2⟩
  have hb3 := HB.out.trans (hb2.mono HB.out.size)
  replace C3 := C3 w2 hb3
  have HB2 : Hid (Below w.heap.size w w2) := hb3
  clear hb2 hb3 HB C2
  go_wp2_with fail
  refine C3.mono ?_
  rintro e w3 ⟨rfl, hb4⟩
  have HB3 : Hid (Below w.heap.size w w3) := HB2.out.trans (hb4.mono HB2.out.size)
  clear hb4 HB2 C3
  go_wp2
  go_ret3
  exact ⟨rfl, HB3.out⟩
set_option maxHeartbeats 1600000 in
theorem layout_am (n c : Nat) (p b vs ts : Int) (ao : Option Addr) (w : World) (hs : n ≤ 1048576) (h0 : 0 ≤ p) (h1 : p ≤ (n : Int) - 4) (h4 : ¬ n < 4) (l1 : 0 ≤ b) (l2 : b ≤ 4294967295) (l : (0 ≤ vs ∧ vs ≤ 65535) ∧ 0 ≤ ts ∧ ts ≤ 65535) (hx : ¬ 2147483648 ≤ b) (hv2 : ¬ (p - b) < 0) (hv3 : ¬ (n : Int) - 4 < (p - b))
    (q1 : vs < 4)
    (C1 : Calls Tryf.prog 23 #[.slice ao n c, .int .i64 p] w fun e w' => e = .returned (.int .u32 b) ∧ Below w.heap.size w w')
    (C2 : ∀ w1, Below w.heap.size w w1 → Calls Tryf.prog 24 #[.slice ao n c, .int .i64 (p - b)] w1 fun e w' => e = .returned (.int .i64 vs) ∧ Below w1.heap.size w1 w')
    (C3 : ∀ w1, Below w.heap.size w w1 → Calls Tryf.prog 24 #[.slice ao n c, .int .i64 ((p - b) + 2)] w1 fun e w' => e = .returned (.int .i64 ts) ∧ Below w1.heap.size w1 w') :
    Calls Tryf.prog 12 #[.slice ao n c, .int .i64 p] w fun e w' => e = .returned (.tuple #[.bool false, .int .i64 0, .int .i64 0]) ∧ Below w.heap.size w w' := by
  obtain ⟨⟨l3, l4⟩, l5, l6⟩ := l
  go_enter Tryf.func12, Tryf.ntmps12
  go_wp2_with fail
  refine C1.mono ?_
  rintro e w1 ⟨rfl, hb1⟩
  replace C2 := C2 w1 hb1
  have HB : Hid (Below w.heap.size w w1) := hb1
  clear hb1 C1
  go_wp2_with fail
  refine C2.mono ?_
  rintro e w2 ⟨rfl, hb2⟩
  have hb3 := HB.out.trans (hb2.mono HB.out.size)
  replace C3 := C3 w2 hb3
  have HB2 : Hid (Below w.heap.size w w2) := hb3
  clear hb2 hb3 HB C2
  go_wp2_with fail
  refine C3.mono ?_
  rintro e w3 ⟨rfl, hb4⟩
  have HB3 : Hid (Below w.heap.size w w3) := HB2.out.trans (hb4.mono HB2.out.size)
  clear hb4 HB2 C3
  go_wp2
  go_ret3
  exact ⟨rfl, HB3.out⟩
set_option maxHeartbeats 1600000 in
theorem layout_bp (n c : Nat) (p b vs ts : Int) (ao : Option Addr) (w : World) (hs : n ≤ 1048576) (h0 : 0 ≤ p) (h1 : p ≤ (n : Int) - 4) (h4 : ¬ n < 4) (l1 : 0 ≤ b) (l2 : b ≤ 4294967295) (l : (0 ≤ vs ∧ vs ≤ 65535) ∧ 0 ≤ ts ∧ ts ≤ 65535) (hx : 2147483648 ≤ b) (hv2 : ¬ (p - (b - 4294967296)) < 0) (hv3 : ¬ (n : Int) - 4 < (p - (b - 4294967296)))
    (q1 : ¬ vs < 4) (q2 : vs.tmod 2 = 1)
    (C1 : Calls Tryf.prog 23 #[.slice ao n c, .int .i64 p] w fun e w' => e = .returned (.int .u32 b) ∧ Below w.heap.size w w')
    (C2 : ∀ w1, Below w.heap.size w w1 → Calls Tryf.prog 24 #[.slice ao n c, .int .i64 (p - (b - 4294967296))] w1 fun e w' => e = .returned (.int .i64 vs) ∧ Below w1.heap.size w1 w')
    (C3 : ∀ w1, Below w.heap.size w w1 → Calls Tryf.prog 24 #[.slice ao n c, .int .i64 ((p - (b - 4294967296)) + 2)] w1 fun e w' => e = .returned (.int .i64 ts) ∧ Below w1.heap.size w1 w') :
    Calls Tryf.prog 12 #[.slice ao n c, .int .i64 p] w fun e w' => e = .returned (.tuple #[.bool false, .int .i64 0, .int .i64 0]) ∧ Below w.heap.size w w' := by
  obtain ⟨⟨l3, l4⟩, l5, l6⟩ := l
  go_enter Tryf.func12, Tryf.ntmps12
  go_wp2_with fail
  refine C1.mono ?_
  rintro e w1 ⟨rfl, hb1⟩
  replace C2 := C2 w1 hb1
  have HB : Hid (Below w.heap.size w w1) := hb1
  clear hb1 C1
  go_wp2_with fail
  refine C2.mono ?_
  rintro e w2 ⟨rfl, hb2⟩
  have hb3 := HB.out.trans (hb2.mono HB.out.size)
  replace C3 := C3 w2 hb3
  have HB2 : Hid (Below w.heap.size w w2) := hb3
  clear hb2 hb3 HB C2
  go_wp2_with fail
  refine C3.mono ?_
  rintro e w3 ⟨rfl, hb4⟩
  have HB3 : Hid (Below w.heap.size w w3) := HB2.out.trans (hb4.mono HB2.out.size)
  clear hb4 HB2 C3
  go_wp2
  go_ret3
  exact ⟨rfl, HB3.out⟩
set_option maxHeartbeats 1600000 in
theorem layout_bm (n c : Nat) (p b vs ts : Int) (ao : Option Addr) (w : World) (hs : n ≤ 1048576) (h0 : 0 ≤ p) (h1 : p ≤ (n : Int) - 4) (h4 : ¬ n < 4) (l1 : 0 ≤ b) (l2 : b ≤ 4294967295) (l : (0 ≤ vs ∧ vs ≤ 65535) ∧ 0 ≤ ts ∧ ts ≤ 65535) (hx : ¬ 2147483648 ≤ b) (hv2 : ¬ (p - b) < 0) (hv3 : ¬ (n : Int) - 4 < (p - b))
    (q1 : ¬ vs < 4) (q2 : vs.tmod 2 = 1)
    (C1 : Calls Tryf.prog 23 #[.slice ao n c, .int .i64 p] w fun e w' => e = .returned (.int .u32 b) ∧ Below w.heap.size w w')
    (C2 : ∀ w1, Below w.heap.size w w1 → Calls Tryf.prog 24 #[.slice ao n c, .int .i64 (p - b)] w1 fun e w' => e = .returned (.int .i64 vs) ∧ Below w1.heap.size w1 w')
    (C3 : ∀ w1, Below w.heap.size w w1 → Calls Tryf.prog 24 #[.slice ao n c, .int .i64 ((p - b) + 2)] w1 fun e w' => e = .returned (.int .i64 ts) ∧ Below w1.heap.size w1 w') :
    Calls Tryf.prog 12 #[.slice ao n c, .int .i64 p] w fun e w' => e = .returned (.tuple #[.bool false, .int .i64 0, .int .i64 0]) ∧ Below w.heap.size w w' := by
  obtain ⟨⟨l3, l4⟩, l5, l6⟩ := l
  go_enter Tryf.func12, Tryf.ntmps12
  go_wp2_with fail
  refine C1.mono ?_
  rintro e w1 ⟨rfl, hb1⟩
  replace C2 := C2 w1 hb1
  have HB : Hid (Below w.heap.size w w1) := hb1
  clear hb1 C1
  go_wp2_with fail
  refine C2.mono ?_
  rintro e w2 ⟨rfl, hb2⟩
  have hb3 := HB.out.trans (hb2.mono HB.out.size)
  replace C3 := C3 w2 hb3
  have HB2 : Hid (Below w.heap.size w w2) := hb3
  clear hb2 hb3 HB C2
  go_wp2_with fail
  refine C3.mono ?_
  rintro e w3 ⟨rfl, hb4⟩
  have HB3 : Hid (Below w.heap.size w w3) := HB2.out.trans (hb4.mono HB2.out.size)
  clear hb4 HB2 C3
  go_wp2
  go_ret3
  exact ⟨rfl, HB3.out⟩
set_option maxHeartbeats 1600000 in
theorem layout_cp (n c : Nat) (p b vs ts : Int) (ao : Option Addr) (w : World) (hs : n ≤ 1048576) (h0 : 0 ≤ p) (h1 : p ≤ (n : Int) - 4) (h4 : ¬ n < 4) (l1 : 0 ≤ b) (l2 : b ≤ 4294967295) (l : (0 ≤ vs ∧ vs ≤ 65535) ∧ 0 ≤ ts ∧ ts ≤ 65535) (hx : 2147483648 ≤ b) (hv2 : ¬ (p - (b - 4294967296)) < 0) (hv3 : ¬ (n : Int) - 4 < (p - (b - 4294967296)))
    (q1 : ¬ vs < 4) (q2 : vs.tmod 2 = 0) (q3 : ts < 4)
    (C1 : Calls Tryf.prog 23 #[.slice ao n c, .int .i64 p] w fun e w' => e = .returned (.int .u32 b) ∧ Below w.heap.size w w')
    (C2 : ∀ w1, Below w.heap.size w w1 → Calls Tryf.prog 24 #[.slice ao n c, .int .i64 (p - (b - 4294967296))] w1 fun e w' => e = .returned (.int .i64 vs) ∧ Below w1.heap.size w1 w')
    (C3 : ∀ w1, Below w.heap.size w w1 → Calls Tryf.prog 24 #[.slice ao n c, .int .i64 ((p - (b - 4294967296)) + 2)] w1 fun e w' => e = .returned (.int .i64 ts) ∧ Below w1.heap.size w1 w') :
    Calls Tryf.prog 12 #[.slice ao n c, .int .i64 p] w fun e w' => e = .returned (.tuple #[.bool false, .int .i64 0, .int .i64 0]) ∧ Below w.heap.size w w' := by
  obtain ⟨⟨l3, l4⟩, l5, l6⟩ := l
  go_enter Tryf.func12, Tryf.ntmps12
  go_wp2_with fail
  refine C1.mono ?_
  rintro e w1 ⟨rfl, hb1⟩
  replace C2 := C2 w1 hb1
  have HB : Hid (Below w.heap.size w w1) := hb1
  clear hb1 C1
  go_wp2_with fail
  refine C2.mono ?_
  rintro e w2 ⟨rfl, hb2⟩
  have hb3 := HB.out.trans (hb2.mono HB.out.size)
  replace C3 := C3 w2 hb3
  have HB2 : Hid (Below w.heap.size w w2) := hb3
  clear hb2 hb3 HB C2
  go_wp2_with fail
  refine C3.mono ?_
  rintro e w3 ⟨rfl, hb4⟩
  have HB3 : Hid (Below w.heap.size w w3) := HB2.out.trans (hb4.mono HB2.out.size)
  clear hb4 HB2 C3
  go_wp2
  go_ret3
  exact ⟨rfl, HB3.out⟩
set_option maxHeartbeats 1600000 in
theorem layout_cm (n c : Nat) (p b vs ts : Int) (ao : Option Addr) (w : World) (hs : n ≤ 1048576) (h0 : 0 ≤ p) (h1 : p ≤ (n : Int) - 4) (h4 : ¬ n < 4) (l1 : 0 ≤ b) (l2 : b ≤ 4294967295) (l : (0 ≤ vs ∧ vs ≤ 65535) ∧ 0 ≤ ts ∧ ts ≤ 65535) (hx : ¬ 2147483648 ≤ b) (hv2 : ¬ (p - b) < 0) (hv3 : ¬ (n : Int) - 4 < (p - b))
    (q1 : ¬ vs < 4) (q2 : vs.tmod 2 = 0) (q3 : ts < 4)
    (C1 : Calls Tryf.prog 23 #[.slice ao n c, .int .i64 p] w fun e w' => e = .returned (.int .u32 b) ∧ Below w.heap.size w w')
    (C2 : ∀ w1, Below w.heap.size w w1 → Calls Tryf.prog 24 #[.slice ao n c, .int .i64 (p - b)] w1 fun e w' => e = .returned (.int .i64 vs) ∧ Below w1.heap.size w1 w')
    (C3 : ∀ w1, Below w.heap.size w w1 → Calls Tryf.prog 24 #[.slice ao n c, .int .i64 ((p - b) + 2)] w1 fun e w' => e = .returned (.int .i64 ts) ∧ Below w1.heap.size w1 w') :
    Calls Tryf.prog 12 #[.slice ao n c, .int .i64 p] w fun e w' => e = .returned (.tuple #[.bool false, .int .i64 0, .int .i64 0]) ∧ Below w.heap.size w w' := by
  obtain ⟨⟨l3, l4⟩, l5, l6⟩ := l
  go_enter Tryf.func12, Tryf.ntmps12
  go_wp2_with fail
  refine C1.mono ?_
  rintro e w1 ⟨rfl, hb1⟩
  replace C2 := C2 w1 hb1
  have HB : Hid (Below w.heap.size w w1) := hb1
  clear hb1 C1
  go_wp2_with fail
  refine C2.mono ?_
  rintro e w2 ⟨rfl, hb2⟩
  have hb3 := HB.out.trans (hb2.mono HB.out.size)
  replace C3 := C3 w2 hb3
  have HB2 : Hid (Below w.heap.size w w2) := hb3
  clear hb2 hb3 HB C2
  go_wp2_with fail
  refine C3.mono ?_
  rintro e w3 ⟨rfl, hb4⟩
  have HB3 : Hid (Below w.heap.size w w3) := HB2.out.trans (hb4.mono HB2.out.size)
  clear hb4 HB2 C3
  go_wp2
  go_ret3
  exact ⟨rfl, HB3.out⟩
set_option maxHeartbeats 1600000 in
theorem layout_dp (n c : Nat) (p b vs ts : Int) (ao : Option Addr) (w : World) (hs : n ≤ 1048576) (h0 : 0 ≤ p) (h1 : p ≤ (n : Int) - 4) (h4 : ¬ n < 4) (l1 : 0 ≤ b) (l2 : b ≤ 4294967295) (l : (0 ≤ vs ∧ vs ≤ 65535) ∧ 0 ≤ ts ∧ ts ≤ 65535) (hx : 2147483648 ≤ b) (hv2 : ¬ (p - (b - 4294967296)) < 0) (hv3 : ¬ (n : Int) - 4 < (p - (b - 4294967296)))
    (q1 : ¬ vs < 4) (q2 : vs.tmod 2 = 0) (q3 : ¬ ts < 4) (q4 : (n : Int) - (p - (b - 4294967296)) < vs)
    (C1 : Calls Tryf.prog 23 #[.slice ao n c, .int .i64 p] w fun e w' => e = .returned (.int .u32 b) ∧ Below w.heap.size w w')
    (C2 : ∀ w1, Below w.heap.size w w1 → Calls Tryf.prog 24 #[.slice ao n c, .int .i64 (p - (b - 4294967296))] w1 fun e w' => e = .returned (.int .i64 vs) ∧ Below w1.heap.size w1 w')
    (C3 : ∀ w1, Below w.heap.size w w1 → Calls Tryf.prog 24 #[.slice ao n c, .int .i64 ((p - (b - 4294967296)) + 2)] w1 fun e w' => e = .returned (.int .i64 ts) ∧ Below w1.heap.size w1 w') :
    Calls Tryf.prog 12 #[.slice ao n c, .int .i64 p] w fun e w' => e = .returned (.tuple #[.bool false, .int .i64 0, .int .i64 0]) ∧ Below w.heap.size w w' := by
  obtain ⟨⟨l3, l4⟩, l5, l6⟩ := l
  go_enter Tryf.func12, Tryf.ntmps12
  go_wp2_with fail
  refine C1.mono ?_
  rintro e w1 ⟨rfl, hb1⟩
  replace C2 := C2 w1 hb1
  have HB : Hid (Below w.heap.size w w1) := hb1
  clear hb1 C1
  go_wp2_with fail
  refine C2.mono ?_
  rintro e w2 ⟨rfl, hb2⟩
  have hb3 := HB.out.trans (hb2.mono HB.out.size)
  replace C3 := C3 w2 hb3
  have HB2 : Hid (Below w.heap.size w w2) := hb3
  clear hb2 hb3 HB C2
  go_wp2_with fail
  refine C3.mono ?_
  rintro e w3 ⟨rfl, hb4⟩
  have HB3 : Hid (Below w.heap.size w w3) := HB2.out.trans (hb4.mono HB2.out.size)
  clear hb4 HB2 C3
  go_wp2
  go_ret3
  exact ⟨rfl, HB3.out⟩
set_option maxHeartbeats 1600000 in
theorem layout_dm (n c : Nat) (p b vs ts : Int) (ao : Option Addr) (w : World) (hs : n ≤ 1048576) (h0 : 0 ≤ p) (h1 : p ≤ (n : Int) - 4) (h4 : ¬ n < 4) (l1 : 0 ≤ b) (l2 : b ≤ 4294967295) (l : (0 ≤ vs ∧ vs ≤ 65535) ∧ 0 ≤ ts ∧ ts ≤ 65535) (hx : ¬ 2147483648 ≤ b) (hv2 : ¬ (p - b) < 0) (hv3 : ¬ (n : Int) - 4 < (p - b))
    (q1 : ¬ vs < 4) (q2 : vs.tmod 2 = 0) (q3 : ¬ ts < 4) (q4 : (n : Int) - (p - b) < vs)
    (C1 : Calls Tryf.prog 23 #[.slice ao n c, .int .i64 p] w fun e w' => e = .returned (.int .u32 b) ∧ Below w.heap.size w w')
    (C2 : ∀ w1, Below w.heap.size w w1 → Calls Tryf.prog 24 #[.slice ao n c, .int .i64 (p - b)] w1 fun e w' => e = .returned (.int .i64 vs) ∧ Below w1.heap.size w1 w')
    (C3 : ∀ w1, Below w.heap.size w w1 → Calls Tryf.prog 24 #[.slice ao n c, .int .i64 ((p - b) + 2)] w1 fun e w' => e = .returned (.int .i64 ts) ∧ Below w1.heap.size w1 w') :
    Calls Tryf.prog 12 #[.slice ao n c, .int .i64 p] w fun e w' => e = .returned (.tuple #[.bool false, .int .i64 0, .int .i64 0]) ∧ Below w.heap.size w w' := by
  obtain ⟨⟨l3, l4⟩, l5, l6⟩ := l
  go_enter Tryf.func12, Tryf.ntmps12
  go_wp2_with fail
  refine C1.mono ?_
  rintro e w1 ⟨rfl, hb1⟩
  replace C2 := C2 w1 hb1
  have HB : Hid (Below w.heap.size w w1) := hb1
  clear hb1 C1
  go_wp2_with fail
  refine C2.mono ?_
  rintro e w2 ⟨rfl, hb2⟩
  have hb3 := HB.out.trans (hb2.mono HB.out.size)
  replace C3 := C3 w2 hb3
  have HB2 : Hid (Below w.heap.size w w2) := hb3
  clear hb2 hb3 HB C2
  go_wp2_with fail
  refine C3.mono ?_
  rintro e w3 ⟨rfl, hb4⟩
  have HB3 : Hid (Below w.heap.size w w3) := HB2.out.trans (hb4.mono HB2.out.size)
  clear hb4 HB2 C3
  go_wp2
  go_ret3
  exact ⟨rfl, HB3.out⟩
set_option maxHeartbeats 1600000 in
theorem layout_ep (n c : Nat) (p b vs ts : Int) (ao : Option Addr) (w : World) (hs : n ≤ 1048576) (h0 : 0 ≤ p) (h1 : p ≤ (n : Int) - 4) (h4 : ¬ n < 4) (l1 : 0 ≤ b) (l2 : b ≤ 4294967295) (l : (0 ≤ vs ∧ vs ≤ 65535) ∧ 0 ≤ ts ∧ ts ≤ 65535) (hx : 2147483648 ≤ b) (hv2 : ¬ (p - (b - 4294967296)) < 0) (hv3 : ¬ (n : Int) - 4 < (p - (b - 4294967296)))
    (q1 : ¬ vs < 4) (q2 : vs.tmod 2 = 0) (q3 : ¬ ts < 4) (q4 : ¬ (n : Int) - (p - (b - 4294967296)) < vs) (q5 : (n : Int) - p < ts)
    (C1 : Calls Tryf.prog 23 #[.slice ao n c, .int .i64 p] w fun e w' => e = .returned (.int .u32 b) ∧ Below w.heap.size w w')
    (C2 : ∀ w1, Below w.heap.size w w1 → Calls Tryf.prog 24 #[.slice ao n c, .int .i64 (p - (b - 4294967296))] w1 fun e w' => e = .returned (.int .i64 vs) ∧ Below w1.heap.size w1 w')
    (C3 : ∀ w1, Below w.heap.size w w1 → Calls Tryf.prog 24 #[.slice ao n c, .int .i64 ((p - (b - 4294967296)) + 2)] w1 fun e w' => e = .returned (.int .i64 ts) ∧ Below w1.heap.size w1 w') :
    Calls Tryf.prog 12 #[.slice ao n c, .int .i64 p] w fun e w' => e = .returned (.tuple #[.bool false, .int .i64 0, .int .i64 0]) ∧ Below w.heap.size w w' := by
  obtain ⟨⟨l3, l4⟩, l5, l6⟩ := l
  go_enter Tryf.func12, Tryf.ntmps12
  go_wp2_with fail
  refine C1.mono ?_
  rintro e w1 ⟨rfl, hb1⟩
  replace C2 := C2 w1 hb1
  have HB : Hid (Below w.heap.size w w1) := hb1
  clear hb1 C1
  go_wp2_with fail
  refine C2.mono ?_
  rintro e w2 ⟨rfl, hb2⟩
  have hb3 := HB.out.trans (hb2.mono HB.out.size)
  replace C3 := C3 w2 hb3
  have HB2 : Hid (Below w.heap.size w w2) := hb3
  clear hb2 hb3 HB C2
  go_wp2_with fail
  refine C3.mono ?_
  rintro e w3 ⟨rfl, hb4⟩
  have HB3 : Hid (Below w.heap.size w w3) := HB2.out.trans (hb4.mono HB2.out.size)
  clear hb4 HB2 C3
  go_wp2
  go_ret3
  exact ⟨rfl, HB3.out⟩
set_option maxHeartbeats 1600000 in
theorem layout_em (n c : Nat) (p b vs ts : Int) (ao : Option Addr) (w : World) (hs : n ≤ 1048576) (h0 : 0 ≤ p) (h1 : p ≤ (n : Int) - 4) (h4 : ¬ n < 4) (l1 : 0 ≤ b) (l2 : b ≤ 4294967295) (l : (0 ≤ vs ∧ vs ≤ 65535) ∧ 0 ≤ ts ∧ ts ≤ 65535) (hx : ¬ 2147483648 ≤ b) (hv2 : ¬ (p - b) < 0) (hv3 : ¬ (n : Int) - 4 < (p - b))
    (q1 : ¬ vs < 4) (q2 : vs.tmod 2 = 0) (q3 : ¬ ts < 4) (q4 : ¬ (n : Int) - (p - b) < vs) (q5 : (n : Int) - p < ts)
    (C1 : Calls Tryf.prog 23 #[.slice ao n c, .int .i64 p] w fun e w' => e = .returned (.int .u32 b) ∧ Below w.heap.size w w')
    (C2 : ∀ w1, Below w.heap.size w w1 → Calls Tryf.prog 24 #[.slice ao n c, .int .i64 (p - b)] w1 fun e w' => e = .returned (.int .i64 vs) ∧ Below w1.heap.size w1 w')
    (C3 : ∀ w1, Below w.heap.size w w1 → Calls Tryf.prog 24 #[.slice ao n c, .int .i64 ((p - b) + 2)] w1 fun e w' => e = .returned (.int .i64 ts) ∧ Below w1.heap.size w1 w') :
    Calls Tryf.prog 12 #[.slice ao n c, .int .i64 p] w fun e w' => e = .returned (.tuple #[.bool false, .int .i64 0, .int .i64 0]) ∧ Below w.heap.size w w' := by
  obtain ⟨⟨l3, l4⟩, l5, l6⟩ := l
  go_enter Tryf.func12, Tryf.ntmps12
  go_wp2_with fail
  refine C1.mono ?_
  rintro e w1 ⟨rfl, hb1⟩
  replace C2 := C2 w1 hb1
  have HB : Hid (Below w.heap.size w w1) := hb1
  clear hb1 C1
  go_wp2_with fail
  refine C2.mono ?_
  rintro e w2 ⟨rfl, hb2⟩
  have hb3 := HB.out.trans (hb2.mono HB.out.size)
  replace C3 := C3 w2 hb3
  have HB2 : Hid (Below w.heap.size w w2) := hb3
  clear hb2 hb3 HB C2
  go_wp2_with fail
  refine C3.mono ?_
  rintro e w3 ⟨rfl, hb4⟩
  have HB3 : Hid (Below w.heap.size w w3) := HB2.out.trans (hb4.mono HB2.out.size)
  clear hb4 HB2 C3
  go_wp2
  go_ret3
  exact ⟨rfl, HB3.out⟩
set_option maxHeartbeats 1600000 in
theorem layout_fp (n c : Nat) (p b vs ts : Int) (ao : Option Addr) (w : World) (hs : n ≤ 1048576) (h0 : 0 ≤ p) (h1 : p ≤ (n : Int) - 4) (h4 : ¬ n < 4) (l1 : 0 ≤ b) (l2 : b ≤ 4294967295) (l : (0 ≤ vs ∧ vs ≤ 65535) ∧ 0 ≤ ts ∧ ts ≤ 65535) (hx : 2147483648 ≤ b) (hv2 : ¬ (p - (b - 4294967296)) < 0) (hv3 : ¬ (n : Int) - 4 < (p - (b - 4294967296)))
    (q1 : ¬ vs < 4) (q2 : vs.tmod 2 = 0) (q3 : ¬ ts < 4) (q4 : ¬ (n : Int) - (p - (b - 4294967296)) < vs) (q5 : ¬ (n : Int) - p < ts)
    (C1 : Calls Tryf.prog 23 #[.slice ao n c, .int .i64 p] w fun e w' => e = .returned (.int .u32 b) ∧ Below w.heap.size w w')
    (C2 : ∀ w1, Below w.heap.size w w1 → Calls Tryf.prog 24 #[.slice ao n c, .int .i64 (p - (b - 4294967296))] w1 fun e w' => e = .returned (.int .i64 vs) ∧ Below w1.heap.size w1 w')
    (C3 : ∀ w1, Below w.heap.size w w1 → Calls Tryf.prog 24 #[.slice ao n c, .int .i64 ((p - (b - 4294967296)) + 2)] w1 fun e w' => e = .returned (.int .i64 ts) ∧ Below w1.heap.size w1 w') :
    Calls Tryf.prog 12 #[.slice ao n c, .int .i64 p] w fun e w' => e = .returned (.tuple #[.bool true, .int .i64 (p - (b - 4294967296)), .int .i64 ((vs - 4) / 2)]) ∧ Below w.heap.size w w' := by
  obtain ⟨⟨l3, l4⟩, l5, l6⟩ := l
  go_enter Tryf.func12, Tryf.ntmps12
  go_wp2_with fail
  refine C1.mono ?_
  rintro e w1 ⟨rfl, hb1⟩
  replace C2 := C2 w1 hb1
  have HB : Hid (Below w.heap.size w w1) := hb1
  clear hb1 C1
  go_wp2_with fail
  refine C2.mono ?_
  rintro e w2 ⟨rfl, hb2⟩
  have hb3 := HB.out.trans (hb2.mono HB.out.size)
  replace C3 := C3 w2 hb3
  have HB2 : Hid (Below w.heap.size w w2) := hb3
  clear hb2 hb3 HB C2
  go_wp2_with fail
  refine C3.mono ?_
  rintro e w3 ⟨rfl, hb4⟩
  have HB3 : Hid (Below w.heap.size w w3) := HB2.out.trans (hb4.mono HB2.out.size)
  clear hb4 HB2 C3
  go_wp2
  go_ret3
  exact ⟨rfl, HB3.out⟩
set_option maxHeartbeats 1600000 in
theorem layout_fm (n c : Nat) (p b vs ts : Int) (ao : Option Addr) (w : World) (hs : n ≤ 1048576) (h0 : 0 ≤ p) (h1 : p ≤ (n : Int) - 4) (h4 : ¬ n < 4) (l1 : 0 ≤ b) (l2 : b ≤ 4294967295) (l : (0 ≤ vs ∧ vs ≤ 65535) ∧ 0 ≤ ts ∧ ts ≤ 65535) (hx : ¬ 2147483648 ≤ b) (hv2 : ¬ (p - b) < 0) (hv3 : ¬ (n : Int) - 4 < (p - b))
    (q1 : ¬ vs < 4) (q2 : vs.tmod 2 = 0) (q3 : ¬ ts < 4) (q4 : ¬ (n : Int) - (p - b) < vs) (q5 : ¬ (n : Int) - p < ts)
    (C1 : Calls Tryf.prog 23 #[.slice ao n c, .int .i64 p] w fun e w' => e = .returned (.int .u32 b) ∧ Below w.heap.size w w')
    (C2 : ∀ w1, Below w.heap.size w w1 → Calls Tryf.prog 24 #[.slice ao n c, .int .i64 (p - b)] w1 fun e w' => e = .returned (.int .i64 vs) ∧ Below w1.heap.size w1 w')
    (C3 : ∀ w1, Below w.heap.size w w1 → Calls Tryf.prog 24 #[.slice ao n c, .int .i64 ((p - b) + 2)] w1 fun e w' => e = .returned (.int .i64 ts) ∧ Below w1.heap.size w1 w') :
    Calls Tryf.prog 12 #[.slice ao n c, .int .i64 p] w fun e w' => e = .returned (.tuple #[.bool true, .int .i64 (p - b), .int .i64 ((vs - 4) / 2)]) ∧ Below w.heap.size w w' := by
  obtain ⟨⟨l3, l4⟩, l5, l6⟩ := l
  go_enter Tryf.func12, Tryf.ntmps12
  go_wp2_with fail
  refine C1.mono ?_
  rintro e w1 ⟨rfl, hb1⟩
  replace C2 := C2 w1 hb1
  have HB : Hid (Below w.heap.size w w1) := hb1
  clear hb1 C1
  go_wp2_with fail
  refine C2.mono ?_
  rintro e w2 ⟨rfl, hb2⟩
  have hb3 := HB.out.trans (hb2.mono HB.out.size)
  replace C3 := C3 w2 hb3
  have HB2 : Hid (Below w.heap.size w w2) := hb3
  clear hb2 hb3 HB C2
  go_wp2_with fail
  refine C3.mono ?_
  rintro e w3 ⟨rfl, hb4⟩
  have HB3 : Hid (Below w.heap.size w w3) := HB2.out.trans (hb4.mono HB2.out.size)
  clear hb4 HB2 C3
  go_wp2
  go_ret3
  exact ⟨rfl, HB3.out⟩
end Go.Proofs.Qxb6617024aFmt

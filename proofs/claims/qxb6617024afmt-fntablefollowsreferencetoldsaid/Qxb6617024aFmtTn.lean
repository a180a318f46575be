import Derived.Test.Qxb6617024aFmtTm
namespace Go.Proofs.Qxb6617024aFmt
open Go.RowKit Go.Extern.Stop Go.Stop Go.Extern

set_option maxRecDepth 100000 in
set_option maxHeartbeats 1600000 in
theorem table_bp (bb n c : Nat) (ao : Option Addr) (zs : List Int) (p b vs ts : Int) (w : World) (h : Buf w bb ao n c zs) (he : ErrIs w bb false) (h0 : 0 ≤ p) (h1 : p ≤ (n : Int) - 4) (l1 : 0 ≤ b) (l2 : b ≤ 4294967295) (l : (0 ≤ vs ∧ vs ≤ 65535) ∧ 0 ≤ ts ∧ ts ≤ 65535) (hx : 2147483648 ≤ b)
    (hv2 : ¬ (p - (b - 4294967296)) < 0) (hv3 : (n : Int) < (p - (b - 4294967296)))
    (C2 : ∀ w1, Kept bb w w1 → Calls Tryf.prog 28 #[.pointer (some ⟨bb, 0, none⟩), .int .i64 p] w1 fun e w' => e = .returned (.int .u32 b) ∧ Below w1.heap.size w1 w') :
    Calls Tryf.prog 22 #[.pointer (some ⟨bb, 0, none⟩), .int .i64 p] w fun e w' => e = .returned (noTable) ∧ Kept bb w w' ∧ ErrIs w' bb true := by
  have hs := h.small
  have hw1 : wrap32 b = b - 4294967296 := by unfold wrap32; omega
  have hw2 : wrap64 (b - 4294967296) = b - 4294967296 := by unfold wrap64; omega
  have hw3 : wrap64 (p - (b - 4294967296)) = (p - (b - 4294967296)) := by unfold wrap64; omega
  have hlt := block_lt_of_cell h.b
  have hk0 := fun ob => Kept.of_below (bb := bb) ((Below.refl w.heap.size w).alloc (Nat.le_refl _) ob)
  have he0 := fun ob => he.below ((Below.refl w.heap.size w).alloc (Nat.le_refl _) ob)
  have C1 := fun s ob => inside_ok bb n c ao zs p 4 s (w.alloc ob) (h.kept (hk0 ob)) (he0 ob) h0 (by omega) (by omega) (by omega)
  have F0 := Four.new w
  have HH : Hid (Buf w bb ao n c zs) := h
  obtain ⟨⟨l3, l4⟩, l5, l6⟩ := l
  clear h he
  go_enter Tryf.func22, Tryf.ntmps22
  go_wp2_with fail
  refine (C1 _ _).mono ?_
  rintro e w' ⟨rfl, hw'⟩
  subst w'
  go_wp2_with fail
  refine (C2 _ (hk0 _)).mono ?_
  rintro e w1 ⟨rfl, hb1⟩
  have hk1 := (hk0 _).trans (Kept.of_below hb1)
  have he1 := (he0 _).below hb1
  have HF1 := hide (F0.kept (Kept.of_below (bb := bb) hb1) (by omega))
  have qb := (HH.out.kept hk1).b
  have HK1 : Hid (Kept bb w w1) := hk1
  have HE1 : Hid (ErrIs w1 bb false) := he1
  clear hk0 he0 C1 F0 hb1 hk1 he1 C2
  have HX := fun E => fail_vt bb p w1 HE1.out (HH.out.kept HK1.out).fz E
  go_wp2_with fail
  refine (HX _).mono ?_
  rintro e w9 ⟨rfl, hk9, he9⟩
  have HK9 : Hid (Kept bb w w9) := HK1.out.trans hk9
  have HE9 : Hid (ErrIs w9 bb true) := he9
  have HF9 := hide (HF1.out.kept hk9 (show w.heap.size ≠ bb by omega))
  clear hk9 he9 HK1 HE1 HF1 qb
  obtain ⟨q0, q1, q2, q3, q4, q5, q6, q7⟩ := HF9.out
  go_wp2
  refine bodyPost_ret (v := noTable) (by simp [results, Tryf.results22, go_sem, noTable, q0, q1, q2, q3]) rfl ⟨rfl, (((HK9.out.own (Nat.le_refl _) _).own (Nat.le_refl _) _).own (Nat.le_refl _) _).own (Nat.le_refl _) _, (((HE9.out.own (by omega) _).own (by omega) _).own (by omega) _).own (by omega) _⟩
set_option maxRecDepth 100000 in
set_option maxHeartbeats 1600000 in
theorem table_cp (bb n c : Nat) (ao : Option Addr) (zs : List Int) (p b vs ts : Int) (w : World) (h : Buf w bb ao n c zs) (he : ErrIs w bb false) (h0 : 0 ≤ p) (h1 : p ≤ (n : Int) - 4) (l1 : 0 ≤ b) (l2 : b ≤ 4294967295) (l : (0 ≤ vs ∧ vs ≤ 65535) ∧ 0 ≤ ts ∧ ts ≤ 65535) (hx : 2147483648 ≤ b)
    (hv2 : ¬ (p - (b - 4294967296)) < 0) (hv3 : ¬ (n : Int) < (p - (b - 4294967296))) (hv4 : (n : Int) - 4 < (p - (b - 4294967296)))
    (C2 : ∀ w1, Kept bb w w1 → Calls Tryf.prog 28 #[.pointer (some ⟨bb, 0, none⟩), .int .i64 p] w1 fun e w' => e = .returned (.int .u32 b) ∧ Below w1.heap.size w1 w') :
    Calls Tryf.prog 22 #[.pointer (some ⟨bb, 0, none⟩), .int .i64 p] w fun e w' => e = .returned (noTable) ∧ Kept bb w w' ∧ ErrIs w' bb true := by
  have hs := h.small
  have hw1 : wrap32 b = b - 4294967296 := by unfold wrap32; omega
  have hw2 : wrap64 (b - 4294967296) = b - 4294967296 := by unfold wrap64; omega
  have hw3 : wrap64 (p - (b - 4294967296)) = (p - (b - 4294967296)) := by unfold wrap64; omega
  have hlt := block_lt_of_cell h.b
  have hk0 := fun ob => Kept.of_below (bb := bb) ((Below.refl w.heap.size w).alloc (Nat.le_refl _) ob)
  have he0 := fun ob => he.below ((Below.refl w.heap.size w).alloc (Nat.le_refl _) ob)
  have C1 := fun s ob => inside_ok bb n c ao zs p 4 s (w.alloc ob) (h.kept (hk0 ob)) (he0 ob) h0 (by omega) (by omega) (by omega)
  have F0 := Four.new w
  have HH : Hid (Buf w bb ao n c zs) := h
  obtain ⟨⟨l3, l4⟩, l5, l6⟩ := l
  clear h he
  go_enter Tryf.func22, Tryf.ntmps22
  go_wp2_with fail
  refine (C1 _ _).mono ?_
  rintro e w' ⟨rfl, hw'⟩
  subst w'
  go_wp2_with fail
  refine (C2 _ (hk0 _)).mono ?_
  rintro e w1 ⟨rfl, hb1⟩
  have hk1 := (hk0 _).trans (Kept.of_below hb1)
  have he1 := (he0 _).below hb1
  have HF1 := hide (F0.kept (Kept.of_below (bb := bb) hb1) (by omega))
  have qb := (HH.out.kept hk1).b
  have HK1 : Hid (Kept bb w w1) := hk1
  have HE1 : Hid (ErrIs w1 bb false) := he1
  clear hk0 he0 C1 F0 hb1 hk1 he1 C2
  go_wp2_with fail
  refine (inside_no bb n c ao zs (p - (b - 4294967296)) 4 _ w1 (HH.out.kept HK1.out) HE1.out (by omega) (by omega) (by omega)).mono ?_
  rintro e w9 ⟨rfl, hk9, he9⟩
  have HK9 : Hid (Kept bb w w9) := HK1.out.trans hk9
  have HE9 : Hid (ErrIs w9 bb true) := he9
  have HF9 := hide (HF1.out.kept hk9 (show w.heap.size ≠ bb by omega))
  clear hk9 he9 HK1 HE1 HF1 qb
  obtain ⟨q0, q1, q2, q3, q4, q5, q6, q7⟩ := HF9.out
  go_wp2
  refine bodyPost_ret (v := noTable) (by simp [results, Tryf.results22, go_sem, noTable, q0, q1, q2, q3]) rfl ⟨rfl, (((HK9.out.own (Nat.le_refl _) _).own (Nat.le_refl _) _).own (Nat.le_refl _) _).own (Nat.le_refl _) _, (((HE9.out.own (by omega) _).own (by omega) _).own (by omega) _).own (by omega) _⟩
set_option maxRecDepth 100000 in
set_option maxHeartbeats 1600000 in
theorem table_dp (bb n c : Nat) (ao : Option Addr) (zs : List Int) (p b vs ts : Int) (w : World) (h : Buf w bb ao n c zs) (he : ErrIs w bb false) (h0 : 0 ≤ p) (h1 : p ≤ (n : Int) - 4) (l1 : 0 ≤ b) (l2 : b ≤ 4294967295) (l : (0 ≤ vs ∧ vs ≤ 65535) ∧ 0 ≤ ts ∧ ts ≤ 65535) (hx : 2147483648 ≤ b)
    (hv2 : ¬ (p - (b - 4294967296)) < 0) (hv3 : ¬ (n : Int) - 4 < (p - (b - 4294967296))) (q1 : vs < 4)
    (C2 : ∀ w1, Kept bb w w1 → Calls Tryf.prog 28 #[.pointer (some ⟨bb, 0, none⟩), .int .i64 p] w1 fun e w' => e = .returned (.int .u32 b) ∧ Below w1.heap.size w1 w')
    (C3 : ∀ w1, Kept bb w w1 → Calls Tryf.prog 30 #[.pointer (some ⟨bb, 0, none⟩), .int .i64 (p - (b - 4294967296))] w1 fun e w' => e = .returned (.int .i64 vs) ∧ Below w1.heap.size w1 w')
    (C4 : ∀ w1, Kept bb w w1 → Calls Tryf.prog 30 #[.pointer (some ⟨bb, 0, none⟩), .int .i64 ((p - (b - 4294967296)) + 2)] w1 fun e w' => e = .returned (.int .i64 ts) ∧ Below w1.heap.size w1 w') :
    Calls Tryf.prog 22 #[.pointer (some ⟨bb, 0, none⟩), .int .i64 p] w fun e w' => e = .returned (noTable) ∧ Kept bb w w' ∧ ErrIs w' bb true := by
  have hs := h.small
  have hw1 : wrap32 b = b - 4294967296 := by unfold wrap32; omega
  have hw2 : wrap64 (b - 4294967296) = b - 4294967296 := by unfold wrap64; omega
  have hw3 : wrap64 (p - (b - 4294967296)) = (p - (b - 4294967296)) := by unfold wrap64; omega
  have hlt := block_lt_of_cell h.b
  have hk0 := fun ob => Kept.of_below (bb := bb) ((Below.refl w.heap.size w).alloc (Nat.le_refl _) ob)
  have he0 := fun ob => he.below ((Below.refl w.heap.size w).alloc (Nat.le_refl _) ob)
  have C1 := fun s ob => inside_ok bb n c ao zs p 4 s (w.alloc ob) (h.kept (hk0 ob)) (he0 ob) h0 (by omega) (by omega) (by omega)
  have F0 := Four.new w
  have HH : Hid (Buf w bb ao n c zs) := h
  obtain ⟨⟨l3, l4⟩, l5, l6⟩ := l
  clear h he
  go_enter Tryf.func22, Tryf.ntmps22
  go_wp2_with fail
  refine (C1 _ _).mono ?_
  rintro e w' ⟨rfl, hw'⟩
  subst w'
  go_wp2_with fail
  refine (C2 _ (hk0 _)).mono ?_
  rintro e w1 ⟨rfl, hb1⟩
  have hk1 := (hk0 _).trans (Kept.of_below hb1)
  have he1 := (he0 _).below hb1
  have HF1 := hide (F0.kept (Kept.of_below (bb := bb) hb1) (by omega))
  have qb := (HH.out.kept hk1).b
  have HK1 : Hid (Kept bb w w1) := hk1
  have HE1 : Hid (ErrIs w1 bb false) := he1
  clear hk0 he0 C1 F0 hb1 hk1 he1 C2
  go_wp2_with fail
  refine (inside_ok bb n c ao zs (p - (b - 4294967296)) 4 _ w1 (HH.out.kept HK1.out) HE1.out (by omega) (by omega) (by omega) (by omega)).mono ?_
  rintro e w' ⟨rfl, hw'⟩
  subst w'
  go_wp2_with fail
  refine (C3 _ HK1.out).mono ?_
  rintro e w2 ⟨rfl, hb2⟩
  have HK2 : Hid (Kept bb w w2) := HK1.out.trans (Kept.of_below hb2)
  have HE2 : Hid (ErrIs w2 bb false) := HE1.out.below hb2
  have HF2 := hide (HF1.out.kept (Kept.of_below (bb := bb) hb2) (show w.heap.size ≠ bb by omega))
  clear hb2 HK1 HE1 HF1 C3 qb
  go_wp2_with fail
  refine (C4 _ HK2.out).mono ?_
  rintro e w3 ⟨rfl, hb3⟩
  have HK3 : Hid (Kept bb w w3) := HK2.out.trans (Kept.of_below hb3)
  have HE3 : Hid (ErrIs w3 bb false) := HE2.out.below hb3
  have HF3 := hide (HF2.out.kept (Kept.of_below (bb := bb) hb3) (show w.heap.size ≠ bb by omega))
  have qb := (HH.out.kept HK3.out).b
  clear hb3 HK2 HE2 HF2 C4
  have HX := fun E => fail_sizes bb (p - (b - 4294967296)) vs ts w3 HE3.out (HH.out.kept HK3.out).fz E
  go_wp2_with fail
  refine (HX _).mono ?_
  rintro e w9 ⟨rfl, hk9, he9⟩
  have HK9 : Hid (Kept bb w w9) := HK3.out.trans hk9
  have HE9 : Hid (ErrIs w9 bb true) := he9
  have HF9 := hide (HF3.out.kept hk9 (show w.heap.size ≠ bb by omega))
  clear hk9 he9 HK3 HE3 HF3 qb
  obtain ⟨q0, q1, q2, q3, q4, q5, q6, q7⟩ := HF9.out
  go_wp2
  refine bodyPost_ret (v := noTable) (by simp [results, Tryf.results22, go_sem, noTable, q0, q1, q2, q3]) rfl ⟨rfl, (((HK9.out.own (Nat.le_refl _) _).own (Nat.le_refl _) _).own (Nat.le_refl _) _).own (Nat.le_refl _) _, (((HE9.out.own (by omega) _).own (by omega) _).own (by omega) _).own (by omega) _⟩
set_option maxRecDepth 100000 in
set_option maxHeartbeats 1600000 in
theorem table_ep (bb n c : Nat) (ao : Option Addr) (zs : List Int) (p b vs ts : Int) (w : World) (h : Buf w bb ao n c zs) (he : ErrIs w bb false) (h0 : 0 ≤ p) (h1 : p ≤ (n : Int) - 4) (l1 : 0 ≤ b) (l2 : b ≤ 4294967295) (l : (0 ≤ vs ∧ vs ≤ 65535) ∧ 0 ≤ ts ∧ ts ≤ 65535) (hx : 2147483648 ≤ b)
    (hv2 : ¬ (p - (b - 4294967296)) < 0) (hv3 : ¬ (n : Int) - 4 < (p - (b - 4294967296))) (q1 : ¬ vs < 4) (q2 : vs.tmod 2 = 1)
    (C2 : ∀ w1, Kept bb w w1 → Calls Tryf.prog 28 #[.pointer (some ⟨bb, 0, none⟩), .int .i64 p] w1 fun e w' => e = .returned (.int .u32 b) ∧ Below w1.heap.size w1 w')
    (C3 : ∀ w1, Kept bb w w1 → Calls Tryf.prog 30 #[.pointer (some ⟨bb, 0, none⟩), .int .i64 (p - (b - 4294967296))] w1 fun e w' => e = .returned (.int .i64 vs) ∧ Below w1.heap.size w1 w')
    (C4 : ∀ w1, Kept bb w w1 → Calls Tryf.prog 30 #[.pointer (some ⟨bb, 0, none⟩), .int .i64 ((p - (b - 4294967296)) + 2)] w1 fun e w' => e = .returned (.int .i64 ts) ∧ Below w1.heap.size w1 w') :
    Calls Tryf.prog 22 #[.pointer (some ⟨bb, 0, none⟩), .int .i64 p] w fun e w' => e = .returned (noTable) ∧ Kept bb w w' ∧ ErrIs w' bb true := by
  have hs := h.small
  have hw1 : wrap32 b = b - 4294967296 := by unfold wrap32; omega
  have hw2 : wrap64 (b - 4294967296) = b - 4294967296 := by unfold wrap64; omega
  have hw3 : wrap64 (p - (b - 4294967296)) = (p - (b - 4294967296)) := by unfold wrap64; omega
  have hlt := block_lt_of_cell h.b
  have hk0 := fun ob => Kept.of_below (bb := bb) ((Below.refl w.heap.size w).alloc (Nat.le_refl _) ob)
  have he0 := fun ob => he.below ((Below.refl w.heap.size w).alloc (Nat.le_refl _) ob)
  have C1 := fun s ob => inside_ok bb n c ao zs p 4 s (w.alloc ob) (h.kept (hk0 ob)) (he0 ob) h0 (by omega) (by omega) (by omega)
  have F0 := Four.new w
  have HH : Hid (Buf w bb ao n c zs) := h
  obtain ⟨⟨l3, l4⟩, l5, l6⟩ := l
  clear h he
  go_enter Tryf.func22, Tryf.ntmps22
  go_wp2_with fail
  refine (C1 _ _).mono ?_
  rintro e w' ⟨rfl, hw'⟩
  subst w'
  go_wp2_with fail
  refine (C2 _ (hk0 _)).mono ?_
  rintro e w1 ⟨rfl, hb1⟩
  have hk1 := (hk0 _).trans (Kept.of_below hb1)
  have he1 := (he0 _).below hb1
  have HF1 := hide (F0.kept (Kept.of_below (bb := bb) hb1) (by omega))
  have qb := (HH.out.kept hk1).b
  have HK1 : Hid (Kept bb w w1) := hk1
  have HE1 : Hid (ErrIs w1 bb false) := he1
  clear hk0 he0 C1 F0 hb1 hk1 he1 C2
  go_wp2_with fail
  refine (inside_ok bb n c ao zs (p - (b - 4294967296)) 4 _ w1 (HH.out.kept HK1.out) HE1.out (by omega) (by omega) (by omega) (by omega)).mono ?_
  rintro e w' ⟨rfl, hw'⟩
  subst w'
  go_wp2_with fail
  refine (C3 _ HK1.out).mono ?_
  rintro e w2 ⟨rfl, hb2⟩
  have HK2 : Hid (Kept bb w w2) := HK1.out.trans (Kept.of_below hb2)
  have HE2 : Hid (ErrIs w2 bb false) := HE1.out.below hb2
  have HF2 := hide (HF1.out.kept (Kept.of_below (bb := bb) hb2) (show w.heap.size ≠ bb by omega))
  clear hb2 HK1 HE1 HF1 C3 qb
  go_wp2_with fail
  refine (C4 _ HK2.out).mono ?_
  rintro e w3 ⟨rfl, hb3⟩
  have HK3 : Hid (Kept bb w w3) := HK2.out.trans (Kept.of_below hb3)
  have HE3 : Hid (ErrIs w3 bb false) := HE2.out.below hb3
  have HF3 := hide (HF2.out.kept (Kept.of_below (bb := bb) hb3) (show w.heap.size ≠ bb by omega))
  have qb := (HH.out.kept HK3.out).b
  clear hb3 HK2 HE2 HF2 C4
  have HX := fun E => fail_sizes bb (p - (b - 4294967296)) vs ts w3 HE3.out (HH.out.kept HK3.out).fz E
  go_wp2_with fail
  refine (HX _).mono ?_
  rintro e w9 ⟨rfl, hk9, he9⟩
  have HK9 : Hid (Kept bb w w9) := HK3.out.trans hk9
  have HE9 : Hid (ErrIs w9 bb true) := he9
  have HF9 := hide (HF3.out.kept hk9 (show w.heap.size ≠ bb by omega))
  clear hk9 he9 HK3 HE3 HF3 qb
  obtain ⟨q0, q1, q2, q3, q4, q5, q6, q7⟩ := HF9.out
  go_wp2
  refine bodyPost_ret (v := noTable) (by simp [results, Tryf.results22, go_sem, noTable, q0, q1, q2, q3]) rfl ⟨rfl, (((HK9.out.own (Nat.le_refl _) _).own (Nat.le_refl _) _).own (Nat.le_refl _) _).own (Nat.le_refl _) _, (((HE9.out.own (by omega) _).own (by omega) _).own (by omega) _).own (by omega) _⟩
set_option maxRecDepth 100000 in
set_option maxHeartbeats 1600000 in
theorem table_fp (bb n c : Nat) (ao : Option Addr) (zs : List Int) (p b vs ts : Int) (w : World) (h : Buf w bb ao n c zs) (he : ErrIs w bb false) (h0 : 0 ≤ p) (h1 : p ≤ (n : Int) - 4) (l1 : 0 ≤ b) (l2 : b ≤ 4294967295) (l : (0 ≤ vs ∧ vs ≤ 65535) ∧ 0 ≤ ts ∧ ts ≤ 65535) (hx : 2147483648 ≤ b)
    (hv2 : ¬ (p - (b - 4294967296)) < 0) (hv3 : ¬ (n : Int) - 4 < (p - (b - 4294967296))) (q1 : ¬ vs < 4) (q2 : vs.tmod 2 = 0) (q3 : ts < 4)
    (C2 : ∀ w1, Kept bb w w1 → Calls Tryf.prog 28 #[.pointer (some ⟨bb, 0, none⟩), .int .i64 p] w1 fun e w' => e = .returned (.int .u32 b) ∧ Below w1.heap.size w1 w')
    (C3 : ∀ w1, Kept bb w w1 → Calls Tryf.prog 30 #[.pointer (some ⟨bb, 0, none⟩), .int .i64 (p - (b - 4294967296))] w1 fun e w' => e = .returned (.int .i64 vs) ∧ Below w1.heap.size w1 w')
    (C4 : ∀ w1, Kept bb w w1 → Calls Tryf.prog 30 #[.pointer (some ⟨bb, 0, none⟩), .int .i64 ((p - (b - 4294967296)) + 2)] w1 fun e w' => e = .returned (.int .i64 ts) ∧ Below w1.heap.size w1 w') :
    Calls Tryf.prog 22 #[.pointer (some ⟨bb, 0, none⟩), .int .i64 p] w fun e w' => e = .returned (noTable) ∧ Kept bb w w' ∧ ErrIs w' bb true := by
  have hs := h.small
  have hw1 : wrap32 b = b - 4294967296 := by unfold wrap32; omega
  have hw2 : wrap64 (b - 4294967296) = b - 4294967296 := by unfold wrap64; omega
  have hw3 : wrap64 (p - (b - 4294967296)) = (p - (b - 4294967296)) := by unfold wrap64; omega
  have hlt := block_lt_of_cell h.b
  have hk0 := fun ob => Kept.of_below (bb := bb) ((Below.refl w.heap.size w).alloc (Nat.le_refl _) ob)
  have he0 := fun ob => he.below ((Below.refl w.heap.size w).alloc (Nat.le_refl _) ob)
  have C1 := fun s ob => inside_ok bb n c ao zs p 4 s (w.alloc ob) (h.kept (hk0 ob)) (he0 ob) h0 (by omega) (by omega) (by omega)
  have F0 := Four.new w
  have HH : Hid (Buf w bb ao n c zs) := h
  obtain ⟨⟨l3, l4⟩, l5, l6⟩ := l
  clear h he
  go_enter Tryf.func22, Tryf.ntmps22
  go_wp2_with fail
  refine (C1 _ _).mono ?_
  rintro e w' ⟨rfl, hw'⟩
  subst w'
  go_wp2_with fail
  refine (C2 _ (hk0 _)).mono ?_
  rintro e w1 ⟨rfl, hb1⟩
  have hk1 := (hk0 _).trans (Kept.of_below hb1)
  have he1 := (he0 _).below hb1
  have HF1 := hide (F0.kept (Kept.of_below (bb := bb) hb1) (by omega))
  have qb := (HH.out.kept hk1).b
  have HK1 : Hid (Kept bb w w1) := hk1
  have HE1 : Hid (ErrIs w1 bb false) := he1
  clear hk0 he0 C1 F0 hb1 hk1 he1 C2
  go_wp2_with fail
  refine (inside_ok bb n c ao zs (p - (b - 4294967296)) 4 _ w1 (HH.out.kept HK1.out) HE1.out (by omega) (by omega) (by omega) (by omega)).mono ?_
  rintro e w' ⟨rfl, hw'⟩
  subst w'
  go_wp2_with fail
  refine (C3 _ HK1.out).mono ?_
  rintro e w2 ⟨rfl, hb2⟩
  have HK2 : Hid (Kept bb w w2) := HK1.out.trans (Kept.of_below hb2)
  have HE2 : Hid (ErrIs w2 bb false) := HE1.out.below hb2
  have HF2 := hide (HF1.out.kept (Kept.of_below (bb := bb) hb2) (show w.heap.size ≠ bb by omega))
  clear hb2 HK1 HE1 HF1 C3 qb
  go_wp2_with fail
  refine (C4 _ HK2.out).mono ?_
  rintro e w3 ⟨rfl, hb3⟩
  have HK3 : Hid (Kept bb w w3) := HK2.out.trans (Kept.of_below hb3)
  have HE3 : Hid (ErrIs w3 bb false) := HE2.out.below hb3
  have HF3 := hide (HF2.out.kept (Kept.of_below (bb := bb) hb3) (show w.heap.size ≠ bb by omega))
  have qb := (HH.out.kept HK3.out).b
  clear hb3 HK2 HE2 HF2 C4
  have HX := fun E => fail_sizes bb (p - (b - 4294967296)) vs ts w3 HE3.out (HH.out.kept HK3.out).fz E
  go_wp2_with fail
  refine (HX _).mono ?_
  rintro e w9 ⟨rfl, hk9, he9⟩
  have HK9 : Hid (Kept bb w w9) := HK3.out.trans hk9
  have HE9 : Hid (ErrIs w9 bb true) := he9
  have HF9 := hide (HF3.out.kept hk9 (show w.heap.size ≠ bb by omega))
  clear hk9 he9 HK3 HE3 HF3 qb
  obtain ⟨q0, q1, q2, q3, q4, q5, q6, q7⟩ := HF9.out
  go_wp2
  refine bodyPost_ret (v := noTable) (by simp [results, Tryf.results22, go_sem, noTable, q0, q1, q2, q3]) rfl ⟨rfl, (((HK9.out.own (Nat.le_refl _) _).own (Nat.le_refl _) _).own (Nat.le_refl _) _).own (Nat.le_refl _) _, (((HE9.out.own (by omega) _).own (by omega) _).own (by omega) _).own (by omega) _⟩
set_option maxRecDepth 100000 in
set_option maxHeartbeats 1600000 in
theorem table_gp (bb n c : Nat) (ao : Option Addr) (zs : List Int) (p b vs ts : Int) (w : World) (h : Buf w bb ao n c zs) (he : ErrIs w bb false) (h0 : 0 ≤ p) (h1 : p ≤ (n : Int) - 4) (l1 : 0 ≤ b) (l2 : b ≤ 4294967295) (l : (0 ≤ vs ∧ vs ≤ 65535) ∧ 0 ≤ ts ∧ ts ≤ 65535) (hx : 2147483648 ≤ b)
    (hv2 : ¬ (p - (b - 4294967296)) < 0) (hv3 : ¬ (n : Int) - 4 < (p - (b - 4294967296))) (q1 : ¬ vs < 4) (q2 : vs.tmod 2 = 0) (q3 : ¬ ts < 4) (q4 : (n : Int) - (p - (b - 4294967296)) < vs)
    (C2 : ∀ w1, Kept bb w w1 → Calls Tryf.prog 28 #[.pointer (some ⟨bb, 0, none⟩), .int .i64 p] w1 fun e w' => e = .returned (.int .u32 b) ∧ Below w1.heap.size w1 w')
    (C3 : ∀ w1, Kept bb w w1 → Calls Tryf.prog 30 #[.pointer (some ⟨bb, 0, none⟩), .int .i64 (p - (b - 4294967296))] w1 fun e w' => e = .returned (.int .i64 vs) ∧ Below w1.heap.size w1 w')
    (C4 : ∀ w1, Kept bb w w1 → Calls Tryf.prog 30 #[.pointer (some ⟨bb, 0, none⟩), .int .i64 ((p - (b - 4294967296)) + 2)] w1 fun e w' => e = .returned (.int .i64 ts) ∧ Below w1.heap.size w1 w') :
    Calls Tryf.prog 22 #[.pointer (some ⟨bb, 0, none⟩), .int .i64 p] w fun e w' => e = .returned (noTable) ∧ Kept bb w w' ∧ ErrIs w' bb true := by
  have hs := h.small
  have hw1 : wrap32 b = b - 4294967296 := by unfold wrap32; omega
  have hw2 : wrap64 (b - 4294967296) = b - 4294967296 := by unfold wrap64; omega
  have hw3 : wrap64 (p - (b - 4294967296)) = (p - (b - 4294967296)) := by unfold wrap64; omega
  have hlt := block_lt_of_cell h.b
  have hk0 := fun ob => Kept.of_below (bb := bb) ((Below.refl w.heap.size w).alloc (Nat.le_refl _) ob)
  have he0 := fun ob => he.below ((Below.refl w.heap.size w).alloc (Nat.le_refl _) ob)
  have C1 := fun s ob => inside_ok bb n c ao zs p 4 s (w.alloc ob) (h.kept (hk0 ob)) (he0 ob) h0 (by omega) (by omega) (by omega)
  have F0 := Four.new w
  have HH : Hid (Buf w bb ao n c zs) := h
  obtain ⟨⟨l3, l4⟩, l5, l6⟩ := l
  clear h he
  go_enter Tryf.func22, Tryf.ntmps22
  go_wp2_with fail
  refine (C1 _ _).mono ?_
  rintro e w' ⟨rfl, hw'⟩
  subst w'
  go_wp2_with fail
  refine (C2 _ (hk0 _)).mono ?_
  rintro e w1 ⟨rfl, hb1⟩
  have hk1 := (hk0 _).trans (Kept.of_below hb1)
  have he1 := (he0 _).below hb1
  have HF1 := hide (F0.kept (Kept.of_below (bb := bb) hb1) (by omega))
  have qb := (HH.out.kept hk1).b
  have HK1 : Hid (Kept bb w w1) := hk1
  have HE1 : Hid (ErrIs w1 bb false) := he1
  clear hk0 he0 C1 F0 hb1 hk1 he1 C2
  go_wp2_with fail
  refine (inside_ok bb n c ao zs (p - (b - 4294967296)) 4 _ w1 (HH.out.kept HK1.out) HE1.out (by omega) (by omega) (by omega) (by omega)).mono ?_
  rintro e w' ⟨rfl, hw'⟩
  subst w'
  go_wp2_with fail
  refine (C3 _ HK1.out).mono ?_
  rintro e w2 ⟨rfl, hb2⟩
  have HK2 : Hid (Kept bb w w2) := HK1.out.trans (Kept.of_below hb2)
  have HE2 : Hid (ErrIs w2 bb false) := HE1.out.below hb2
  have HF2 := hide (HF1.out.kept (Kept.of_below (bb := bb) hb2) (show w.heap.size ≠ bb by omega))
  clear hb2 HK1 HE1 HF1 C3 qb
  go_wp2_with fail
  refine (C4 _ HK2.out).mono ?_
  rintro e w3 ⟨rfl, hb3⟩
  have HK3 : Hid (Kept bb w w3) := HK2.out.trans (Kept.of_below hb3)
  have HE3 : Hid (ErrIs w3 bb false) := HE2.out.below hb3
  have HF3 := hide (HF2.out.kept (Kept.of_below (bb := bb) hb3) (show w.heap.size ≠ bb by omega))
  have qb := (HH.out.kept HK3.out).b
  clear hb3 HK2 HE2 HF2 C4
  go_wp2_with fail
  refine (inside_no bb n c ao zs (p - (b - 4294967296)) vs _ w3 (HH.out.kept HK3.out) HE3.out (by omega) (by omega) (by omega)).mono ?_
  rintro e w9 ⟨rfl, hk9, he9⟩
  have HK9 : Hid (Kept bb w w9) := HK3.out.trans hk9
  have HE9 : Hid (ErrIs w9 bb true) := he9
  have HF9 := hide (HF3.out.kept hk9 (show w.heap.size ≠ bb by omega))
  clear hk9 he9 HK3 HE3 HF3 qb
  obtain ⟨q0, q1, q2, q3, q4, q5, q6, q7⟩ := HF9.out
  go_wp2
  refine bodyPost_ret (v := noTable) (by simp [results, Tryf.results22, go_sem, noTable, q0, q1, q2, q3]) rfl ⟨rfl, (((HK9.out.own (Nat.le_refl _) _).own (Nat.le_refl _) _).own (Nat.le_refl _) _).own (Nat.le_refl _) _, (((HE9.out.own (by omega) _).own (by omega) _).own (by omega) _).own (by omega) _⟩
set_option maxRecDepth 100000 in
set_option maxHeartbeats 1600000 in
theorem table_hp (bb n c : Nat) (ao : Option Addr) (zs : List Int) (p b vs ts : Int) (w : World) (h : Buf w bb ao n c zs) (he : ErrIs w bb false) (h0 : 0 ≤ p) (h1 : p ≤ (n : Int) - 4) (l1 : 0 ≤ b) (l2 : b ≤ 4294967295) (l : (0 ≤ vs ∧ vs ≤ 65535) ∧ 0 ≤ ts ∧ ts ≤ 65535) (hx : 2147483648 ≤ b)
    (hv2 : ¬ (p - (b - 4294967296)) < 0) (hv3 : ¬ (n : Int) - 4 < (p - (b - 4294967296))) (q1 : ¬ vs < 4) (q2 : vs.tmod 2 = 0) (q3 : ¬ ts < 4) (q4 : ¬ (n : Int) - (p - (b - 4294967296)) < vs) (q5 : (n : Int) - p < ts)
    (C2 : ∀ w1, Kept bb w w1 → Calls Tryf.prog 28 #[.pointer (some ⟨bb, 0, none⟩), .int .i64 p] w1 fun e w' => e = .returned (.int .u32 b) ∧ Below w1.heap.size w1 w')
    (C3 : ∀ w1, Kept bb w w1 → Calls Tryf.prog 30 #[.pointer (some ⟨bb, 0, none⟩), .int .i64 (p - (b - 4294967296))] w1 fun e w' => e = .returned (.int .i64 vs) ∧ Below w1.heap.size w1 w')
    (C4 : ∀ w1, Kept bb w w1 → Calls Tryf.prog 30 #[.pointer (some ⟨bb, 0, none⟩), .int .i64 ((p - (b - 4294967296)) + 2)] w1 fun e w' => e = .returned (.int .i64 ts) ∧ Below w1.heap.size w1 w') :
    Calls Tryf.prog 22 #[.pointer (some ⟨bb, 0, none⟩), .int .i64 p] w fun e w' => e = .returned (noTable) ∧ Kept bb w w' ∧ ErrIs w' bb true := by
  have hs := h.small
  have hw1 : wrap32 b = b - 4294967296 := by unfold wrap32; omega
  have hw2 : wrap64 (b - 4294967296) = b - 4294967296 := by unfold wrap64; omega
  have hw3 : wrap64 (p - (b - 4294967296)) = (p - (b - 4294967296)) := by unfold wrap64; omega
  have hlt := block_lt_of_cell h.b
  have hk0 := fun ob => Kept.of_below (bb := bb) ((Below.refl w.heap.size w).alloc (Nat.le_refl _) ob)
  have he0 := fun ob => he.below ((Below.refl w.heap.size w).alloc (Nat.le_refl _) ob)
  have C1 := fun s ob => inside_ok bb n c ao zs p 4 s (w.alloc ob) (h.kept (hk0 ob)) (he0 ob) h0 (by omega) (by omega) (by omega)
  have F0 := Four.new w
  have HH : Hid (Buf w bb ao n c zs) := h
  obtain ⟨⟨l3, l4⟩, l5, l6⟩ := l
  clear h he
  go_enter Tryf.func22, Tryf.ntmps22
  go_wp2_with fail
  refine (C1 _ _).mono ?_
  rintro e w' ⟨rfl, hw'⟩
  subst w'
  go_wp2_with fail
  refine (C2 _ (hk0 _)).mono ?_
  rintro e w1 ⟨rfl, hb1⟩
  have hk1 := (hk0 _).trans (Kept.of_below hb1)
  have he1 := (he0 _).below hb1
  have HF1 := hide (F0.kept (Kept.of_below (bb := bb) hb1) (by omega))
  have qb := (HH.out.kept hk1).b
  have HK1 : Hid (Kept bb w w1) := hk1
  have HE1 : Hid (ErrIs w1 bb false) := he1
  clear hk0 he0 C1 F0 hb1 hk1 he1 C2
  go_wp2_with fail
  refine (inside_ok bb n c ao zs (p - (b - 4294967296)) 4 _ w1 (HH.out.kept HK1.out) HE1.out (by omega) (by omega) (by omega) (by omega)).mono ?_
  rintro e w' ⟨rfl, hw'⟩
  subst w'
  go_wp2_with fail
  refine (C3 _ HK1.out).mono ?_
  rintro e w2 ⟨rfl, hb2⟩
  have HK2 : Hid (Kept bb w w2) := HK1.out.trans (Kept.of_below hb2)
  have HE2 : Hid (ErrIs w2 bb false) := HE1.out.below hb2
  have HF2 := hide (HF1.out.kept (Kept.of_below (bb := bb) hb2) (show w.heap.size ≠ bb by omega))
  clear hb2 HK1 HE1 HF1 C3 qb
  go_wp2_with fail
  refine (C4 _ HK2.out).mono ?_
  rintro e w3 ⟨rfl, hb3⟩
  have HK3 : Hid (Kept bb w w3) := HK2.out.trans (Kept.of_below hb3)
  have HE3 : Hid (ErrIs w3 bb false) := HE2.out.below hb3
  have HF3 := hide (HF2.out.kept (Kept.of_below (bb := bb) hb3) (show w.heap.size ≠ bb by omega))
  have qb := (HH.out.kept HK3.out).b
  clear hb3 HK2 HE2 HF2 C4
  go_wp2_with fail
  refine (inside_ok bb n c ao zs (p - (b - 4294967296)) vs _ w3 (HH.out.kept HK3.out) HE3.out (by omega) (by omega) (by omega) (by omega)).mono ?_
  rintro e w' ⟨rfl, hw'⟩
  subst w'
  go_wp2_with fail
  refine (inside_no bb n c ao zs p ts _ w3 (HH.out.kept HK3.out) HE3.out (by omega) (by omega) (by omega)).mono ?_
  rintro e w9 ⟨rfl, hk9, he9⟩
  have HK9 : Hid (Kept bb w w9) := HK3.out.trans hk9
  have HE9 : Hid (ErrIs w9 bb true) := he9
  have HF9 := hide (HF3.out.kept hk9 (show w.heap.size ≠ bb by omega))
  clear hk9 he9 HK3 HE3 HF3 qb
  obtain ⟨q0, q1, q2, q3, q4, q5, q6, q7⟩ := HF9.out
  go_wp2
  refine bodyPost_ret (v := noTable) (by simp [results, Tryf.results22, go_sem, noTable, q0, q1, q2, q3]) rfl ⟨rfl, (((HK9.out.own (Nat.le_refl _) _).own (Nat.le_refl _) _).own (Nat.le_refl _) _).own (Nat.le_refl _) _, (((HE9.out.own (by omega) _).own (by omega) _).own (by omega) _).own (by omega) _⟩
set_option maxRecDepth 100000 in
set_option maxHeartbeats 1600000 in
theorem table_dm (bb n c : Nat) (ao : Option Addr) (zs : List Int) (p b vs ts : Int) (w : World) (h : Buf w bb ao n c zs) (he : ErrIs w bb false) (h0 : 0 ≤ p) (h1 : p ≤ (n : Int) - 4) (l1 : 0 ≤ b) (l2 : b ≤ 4294967295) (l : (0 ≤ vs ∧ vs ≤ 65535) ∧ 0 ≤ ts ∧ ts ≤ 65535) (hx : ¬ 2147483648 ≤ b)
    (hv2 : ¬ (p - b) < 0) (hv3 : ¬ (n : Int) - 4 < (p - b)) (q1 : vs < 4)
    (C2 : ∀ w1, Kept bb w w1 → Calls Tryf.prog 28 #[.pointer (some ⟨bb, 0, none⟩), .int .i64 p] w1 fun e w' => e = .returned (.int .u32 b) ∧ Below w1.heap.size w1 w')
    (C3 : ∀ w1, Kept bb w w1 → Calls Tryf.prog 30 #[.pointer (some ⟨bb, 0, none⟩), .int .i64 (p - b)] w1 fun e w' => e = .returned (.int .i64 vs) ∧ Below w1.heap.size w1 w')
    (C4 : ∀ w1, Kept bb w w1 → Calls Tryf.prog 30 #[.pointer (some ⟨bb, 0, none⟩), .int .i64 ((p - b) + 2)] w1 fun e w' => e = .returned (.int .i64 ts) ∧ Below w1.heap.size w1 w') :
    Calls Tryf.prog 22 #[.pointer (some ⟨bb, 0, none⟩), .int .i64 p] w fun e w' => e = .returned (noTable) ∧ Kept bb w w' ∧ ErrIs w' bb true := by
  have hs := h.small
  have hw1 : wrap32 b = b := by unfold wrap32; omega
  have hw2 : wrap64 (b) = b := by unfold wrap64; omega
  have hw3 : wrap64 (p - b) = (p - b) := by unfold wrap64; omega
  have hlt := block_lt_of_cell h.b
  have hk0 := fun ob => Kept.of_below (bb := bb) ((Below.refl w.heap.size w).alloc (Nat.le_refl _) ob)
  have he0 := fun ob => he.below ((Below.refl w.heap.size w).alloc (Nat.le_refl _) ob)
  have C1 := fun s ob => inside_ok bb n c ao zs p 4 s (w.alloc ob) (h.kept (hk0 ob)) (he0 ob) h0 (by omega) (by omega) (by omega)
  have F0 := Four.new w
  have HH : Hid (Buf w bb ao n c zs) := h
  obtain ⟨⟨l3, l4⟩, l5, l6⟩ := l
  clear h he
  go_enter Tryf.func22, Tryf.ntmps22
  go_wp2_with fail
  refine (C1 _ _).mono ?_
  rintro e w' ⟨rfl, hw'⟩
  subst w'
  go_wp2_with fail
  refine (C2 _ (hk0 _)).mono ?_
  rintro e w1 ⟨rfl, hb1⟩
  have hk1 := (hk0 _).trans (Kept.of_below hb1)
  have he1 := (he0 _).below hb1
  have HF1 := hide (F0.kept (Kept.of_below (bb := bb) hb1) (by omega))
  have qb := (HH.out.kept hk1).b
  have HK1 : Hid (Kept bb w w1) := hk1
  have HE1 : Hid (ErrIs w1 bb false) := he1
  clear hk0 he0 C1 F0 hb1 hk1 he1 C2
  go_wp2_with fail
  refine (inside_ok bb n c ao zs (p - b) 4 _ w1 (HH.out.kept HK1.out) HE1.out (by omega) (by omega) (by omega) (by omega)).mono ?_
  rintro e w' ⟨rfl, hw'⟩
  subst w'
  go_wp2_with fail
  refine (C3 _ HK1.out).mono ?_
  rintro e w2 ⟨rfl, hb2⟩
  have HK2 : Hid (Kept bb w w2) := HK1.out.trans (Kept.of_below hb2)
  have HE2 : Hid (ErrIs w2 bb false) := HE1.out.below hb2
  have HF2 := hide (HF1.out.kept (Kept.of_below (bb := bb) hb2) (show w.heap.size ≠ bb by omega))
  clear hb2 HK1 HE1 HF1 C3 qb
  go_wp2_with fail
  refine (C4 _ HK2.out).mono ?_
  rintro e w3 ⟨rfl, hb3⟩
  have HK3 : Hid (Kept bb w w3) := HK2.out.trans (Kept.of_below hb3)
  have HE3 : Hid (ErrIs w3 bb false) := HE2.out.below hb3
  have HF3 := hide (HF2.out.kept (Kept.of_below (bb := bb) hb3) (show w.heap.size ≠ bb by omega))
  have qb := (HH.out.kept HK3.out).b
  clear hb3 HK2 HE2 HF2 C4
  have HX := fun E => fail_sizes bb (p - b) vs ts w3 HE3.out (HH.out.kept HK3.out).fz E
  go_wp2_with fail
  refine (HX _).mono ?_
  rintro e w9 ⟨rfl, hk9, he9⟩
  have HK9 : Hid (Kept bb w w9) := HK3.out.trans hk9
  have HE9 : Hid (ErrIs w9 bb true) := he9
  have HF9 := hide (HF3.out.kept hk9 (show w.heap.size ≠ bb by omega))
  clear hk9 he9 HK3 HE3 HF3 qb
  obtain ⟨q0, q1, q2, q3, q4, q5, q6, q7⟩ := HF9.out
  go_wp2
  refine bodyPost_ret (v := noTable) (by simp [results, Tryf.results22, go_sem, noTable, q0, q1, q2, q3]) rfl ⟨rfl, (((HK9.out.own (Nat.le_refl _) _).own (Nat.le_refl _) _).own (Nat.le_refl _) _).own (Nat.le_refl _) _, (((HE9.out.own (by omega) _).own (by omega) _).own (by omega) _).own (by omega) _⟩
set_option maxRecDepth 100000 in
set_option maxHeartbeats 1600000 in
theorem table_em (bb n c : Nat) (ao : Option Addr) (zs : List Int) (p b vs ts : Int) (w : World) (h : Buf w bb ao n c zs) (he : ErrIs w bb false) (h0 : 0 ≤ p) (h1 : p ≤ (n : Int) - 4) (l1 : 0 ≤ b) (l2 : b ≤ 4294967295) (l : (0 ≤ vs ∧ vs ≤ 65535) ∧ 0 ≤ ts ∧ ts ≤ 65535) (hx : ¬ 2147483648 ≤ b)
    (hv2 : ¬ (p - b) < 0) (hv3 : ¬ (n : Int) - 4 < (p - b)) (q1 : ¬ vs < 4) (q2 : vs.tmod 2 = 1)
    (C2 : ∀ w1, Kept bb w w1 → Calls Tryf.prog 28 #[.pointer (some ⟨bb, 0, none⟩), .int .i64 p] w1 fun e w' => e = .returned (.int .u32 b) ∧ Below w1.heap.size w1 w')
    (C3 : ∀ w1, Kept bb w w1 → Calls Tryf.prog 30 #[.pointer (some ⟨bb, 0, none⟩), .int .i64 (p - b)] w1 fun e w' => e = .returned (.int .i64 vs) ∧ Below w1.heap.size w1 w')
    (C4 : ∀ w1, Kept bb w w1 → Calls Tryf.prog 30 #[.pointer (some ⟨bb, 0, none⟩), .int .i64 ((p - b) + 2)] w1 fun e w' => e = .returned (.int .i64 ts) ∧ Below w1.heap.size w1 w') :
    Calls Tryf.prog 22 #[.pointer (some ⟨bb, 0, none⟩), .int .i64 p] w fun e w' => e = .returned (noTable) ∧ Kept bb w w' ∧ ErrIs w' bb true := by
  have hs := h.small
  have hw1 : wrap32 b = b := by unfold wrap32; omega
  have hw2 : wrap64 (b) = b := by unfold wrap64; omega
  have hw3 : wrap64 (p - b) = (p - b) := by unfold wrap64; omega
  have hlt := block_lt_of_cell h.b
  have hk0 := fun ob => Kept.of_below (bb := bb) ((Below.refl w.heap.size w).alloc (Nat.le_refl _) ob)
  have he0 := fun ob => he.below ((Below.refl w.heap.size w).alloc (Nat.le_refl _) ob)
  have C1 := fun s ob => inside_ok bb n c ao zs p 4 s (w.alloc ob) (h.kept (hk0 ob)) (he0 ob) h0 (by omega) (by omega) (by omega)
  have F0 := Four.new w
  have HH : Hid (Buf w bb ao n c zs) := h
  obtain ⟨⟨l3, l4⟩, l5, l6⟩ := l
  clear h he
  go_enter Tryf.func22, Tryf.ntmps22
  go_wp2_with fail
  refine (C1 _ _).mono ?_
  rintro e w' ⟨rfl, hw'⟩
  subst w'
  go_wp2_with fail
  refine (C2 _ (hk0 _)).mono ?_
  rintro e w1 ⟨rfl, hb1⟩
  have hk1 := (hk0 _).trans (Kept.of_below hb1)
  have he1 := (he0 _).below hb1
  have HF1 := hide (F0.kept (Kept.of_below (bb := bb) hb1) (by omega))
  have qb := (HH.out.kept hk1).b
  have HK1 : Hid (Kept bb w w1) := hk1
  have HE1 : Hid (ErrIs w1 bb false) := he1
  clear hk0 he0 C1 F0 hb1 hk1 he1 C2
  go_wp2_with fail
  refine (inside_ok bb n c ao zs (p - b) 4 _ w1 (HH.out.kept HK1.out) HE1.out (by omega) (by omega) (by omega) (by omega)).mono ?_
  rintro e w' ⟨rfl, hw'⟩
  subst w'
  go_wp2_with fail
  refine (C3 _ HK1.out).mono ?_
  rintro e w2 ⟨rfl, hb2⟩
  have HK2 : Hid (Kept bb w w2) := HK1.out.trans (Kept.of_below hb2)
  have HE2 : Hid (ErrIs w2 bb false) := HE1.out.below hb2
  have HF2 := hide (HF1.out.kept (Kept.of_below (bb := bb) hb2) (show w.heap.size ≠ bb by omega))
  clear hb2 HK1 HE1 HF1 C3 qb
  go_wp2_with fail
  refine (C4 _ HK2.out).mono ?_
  rintro e w3 ⟨rfl, hb3⟩
  have HK3 : Hid (Kept bb w w3) := HK2.out.trans (Kept.of_below hb3)
  have HE3 : Hid (ErrIs w3 bb false) := HE2.out.below hb3
  have HF3 := hide (HF2.out.kept (Kept.of_below (bb := bb) hb3) (show w.heap.size ≠ bb by omega))
  have qb := (HH.out.kept HK3.out).b
  clear hb3 HK2 HE2 HF2 C4
  have HX := fun E => fail_sizes bb (p - b) vs ts w3 HE3.out (HH.out.kept HK3.out).fz E
  go_wp2_with fail
  refine (HX _).mono ?_
  rintro e w9 ⟨rfl, hk9, he9⟩
  have HK9 : Hid (Kept bb w w9) := HK3.out.trans hk9
  have HE9 : Hid (ErrIs w9 bb true) := he9
  have HF9 := hide (HF3.out.kept hk9 (show w.heap.size ≠ bb by omega))
  clear hk9 he9 HK3 HE3 HF3 qb
  obtain ⟨q0, q1, q2, q3, q4, q5, q6, q7⟩ := HF9.out
  go_wp2
  refine bodyPost_ret (v := noTable) (by simp [results, Tryf.results22, go_sem, noTable, q0, q1, q2, q3]) rfl ⟨rfl, (((HK9.out.own (Nat.le_refl _) _).own (Nat.le_refl _) _).own (Nat.le_refl _) _).own (Nat.le_refl _) _, (((HE9.out.own (by omega) _).own (by omega) _).own (by omega) _).own (by omega) _⟩
set_option maxRecDepth 100000 in
set_option maxHeartbeats 1600000 in
theorem table_fm (bb n c : Nat) (ao : Option Addr) (zs : List Int) (p b vs ts : Int) (w : World) (h : Buf w bb ao n c zs) (he : ErrIs w bb false) (h0 : 0 ≤ p) (h1 : p ≤ (n : Int) - 4) (l1 : 0 ≤ b) (l2 : b ≤ 4294967295) (l : (0 ≤ vs ∧ vs ≤ 65535) ∧ 0 ≤ ts ∧ ts ≤ 65535) (hx : ¬ 2147483648 ≤ b)
    (hv2 : ¬ (p - b) < 0) (hv3 : ¬ (n : Int) - 4 < (p - b)) (q1 : ¬ vs < 4) (q2 : vs.tmod 2 = 0) (q3 : ts < 4)
    (C2 : ∀ w1, Kept bb w w1 → Calls Tryf.prog 28 #[.pointer (some ⟨bb, 0, none⟩), .int .i64 p] w1 fun e w' => e = .returned (.int .u32 b) ∧ Below w1.heap.size w1 w')
    (C3 : ∀ w1, Kept bb w w1 → Calls Tryf.prog 30 #[.pointer (some ⟨bb, 0, none⟩), .int .i64 (p - b)] w1 fun e w' => e = .returned (.int .i64 vs) ∧ Below w1.heap.size w1 w')
    (C4 : ∀ w1, Kept bb w w1 → Calls Tryf.prog 30 #[.pointer (some ⟨bb, 0, none⟩), .int .i64 ((p - b) + 2)] w1 fun e w' => e = .returned (.int .i64 ts) ∧ Below w1.heap.size w1 w') :
    Calls Tryf.prog 22 #[.pointer (some ⟨bb, 0, none⟩), .int .i64 p] w fun e w' => e = .returned (noTable) ∧ Kept bb w w' ∧ ErrIs w' bb true := by
  have hs := h.small
  have hw1 : wrap32 b = b := by unfold wrap32; omega
  have hw2 : wrap64 (b) = b := by unfold wrap64; omega
  have hw3 : wrap64 (p - b) = (p - b) := by unfold wrap64; omega
  have hlt := block_lt_of_cell h.b
  have hk0 := fun ob => Kept.of_below (bb := bb) ((Below.refl w.heap.size w).alloc (Nat.le_refl _) ob)
  have he0 := fun ob => he.below ((Below.refl w.heap.size w).alloc (Nat.le_refl _) ob)
  have C1 := fun s ob => inside_ok bb n c ao zs p 4 s (w.alloc ob) (h.kept (hk0 ob)) (he0 ob) h0 (by omega) (by omega) (by omega)
  have F0 := Four.new w
  have HH : Hid (Buf w bb ao n c zs) := h
  obtain ⟨⟨l3, l4⟩, l5, l6⟩ := l
  clear h he
  go_enter Tryf.func22, Tryf.ntmps22
  go_wp2_with fail
  refine (C1 _ _).mono ?_
  rintro e w' ⟨rfl, hw'⟩
  subst w'
  go_wp2_with fail
  refine (C2 _ (hk0 _)).mono ?_
  rintro e w1 ⟨rfl, hb1⟩
  have hk1 := (hk0 _).trans (Kept.of_below hb1)
  have he1 := (he0 _).below hb1
  have HF1 := hide (F0.kept (Kept.of_below (bb := bb) hb1) (by omega))
  have qb := (HH.out.kept hk1).b
  have HK1 : Hid (Kept bb w w1) := hk1
  have HE1 : Hid (ErrIs w1 bb false) := he1
  clear hk0 he0 C1 F0 hb1 hk1 he1 C2
  go_wp2_with fail
  refine (inside_ok bb n c ao zs (p - b) 4 _ w1 (HH.out.kept HK1.out) HE1.out (by omega) (by omega) (by omega) (by omega)).mono ?_
  rintro e w' ⟨rfl, hw'⟩
  subst w'
  go_wp2_with fail
  refine (C3 _ HK1.out).mono ?_
  rintro e w2 ⟨rfl, hb2⟩
  have HK2 : Hid (Kept bb w w2) := HK1.out.trans (Kept.of_below hb2)
  have HE2 : Hid (ErrIs w2 bb false) := HE1.out.below hb2
  have HF2 := hide (HF1.out.kept (Kept.of_below (bb := bb) hb2) (show w.heap.size ≠ bb by omega))
  clear hb2 HK1 HE1 HF1 C3 qb
  go_wp2_with fail
  refine (C4 _ HK2.out).mono ?_
  rintro e w3 ⟨rfl, hb3⟩
  have HK3 : Hid (Kept bb w w3) := HK2.out.trans (Kept.of_below hb3)
  have HE3 : Hid (ErrIs w3 bb false) := HE2.out.below hb3
  have HF3 := hide (HF2.out.kept (Kept.of_below (bb := bb) hb3) (show w.heap.size ≠ bb by omega))
  have qb := (HH.out.kept HK3.out).b
  clear hb3 HK2 HE2 HF2 C4
  have HX := fun E => fail_sizes bb (p - b) vs ts w3 HE3.out (HH.out.kept HK3.out).fz E
  go_wp2_with fail
  refine (HX _).mono ?_
  rintro e w9 ⟨rfl, hk9, he9⟩
  have HK9 : Hid (Kept bb w w9) := HK3.out.trans hk9
  have HE9 : Hid (ErrIs w9 bb true) := he9
  have HF9 := hide (HF3.out.kept hk9 (show w.heap.size ≠ bb by omega))
  clear hk9 he9 HK3 HE3 HF3 qb
  obtain ⟨q0, q1, q2, q3, q4, q5, q6, q7⟩ := HF9.out
  go_wp2
  refine bodyPost_ret (v := noTable) (by simp [results, Tryf.results22, go_sem, noTable, q0, q1, q2, q3]) rfl ⟨rfl, (((HK9.out.own (Nat.le_refl _) _).own (Nat.le_refl _) _).own (Nat.le_refl _) _).own (Nat.le_refl _) _, (((HE9.out.own (by omega) _).own (by omega) _).own (by omega) _).own (by omega) _⟩
set_option maxRecDepth 100000 in
set_option maxHeartbeats 1600000 in
theorem table_gm (bb n c : Nat) (ao : Option Addr) (zs : List Int) (p b vs ts : Int) (w : World) (h : Buf w bb ao n c zs) (he : ErrIs w bb false) (h0 : 0 ≤ p) (h1 : p ≤ (n : Int) - 4) (l1 : 0 ≤ b) (l2 : b ≤ 4294967295) (l : (0 ≤ vs ∧ vs ≤ 65535) ∧ 0 ≤ ts ∧ ts ≤ 65535) (hx : ¬ 2147483648 ≤ b)
    (hv2 : ¬ (p - b) < 0) (hv3 : ¬ (n : Int) - 4 < (p - b)) (q1 : ¬ vs < 4) (q2 : vs.tmod 2 = 0) (q3 : ¬ ts < 4) (q4 : (n : Int) - (p - b) < vs)
    (C2 : ∀ w1, Kept bb w w1 → Calls Tryf.prog 28 #[.pointer (some ⟨bb, 0, none⟩), .int .i64 p] w1 fun e w' => e = .returned (.int .u32 b) ∧ Below w1.heap.size w1 w')
    (C3 : ∀ w1, Kept bb w w1 → Calls Tryf.prog 30 #[.pointer (some ⟨bb, 0, none⟩), .int .i64 (p - b)] w1 fun e w' => e = .returned (.int .i64 vs) ∧ Below w1.heap.size w1 w')
    (C4 : ∀ w1, Kept bb w w1 → Calls Tryf.prog 30 #[.pointer (some ⟨bb, 0, none⟩), .int .i64 ((p - b) + 2)] w1 fun e w' => e = .returned (.int .i64 ts) ∧ Below w1.heap.size w1 w') :
    Calls Tryf.prog 22 #[.pointer (some ⟨bb, 0, none⟩), .int .i64 p] w fun e w' => e = .returned (noTable) ∧ Kept bb w w' ∧ ErrIs w' bb true := by
  have hs := h.small
  have hw1 : wrap32 b = b := by unfold wrap32; omega
  have hw2 : wrap64 (b) = b := by unfold wrap64; omega
  have hw3 : wrap64 (p - b) = (p - b) := by unfold wrap64; omega
  have hlt := block_lt_of_cell h.b
  have hk0 := fun ob => Kept.of_below (bb := bb) ((Below.refl w.heap.size w).alloc (Nat.le_refl _) ob)
  have he0 := fun ob => he.below ((Below.refl w.heap.size w).alloc (Nat.le_refl _) ob)
  have C1 := fun s ob => inside_ok bb n c ao zs p 4 s (w.alloc ob) (h.kept (hk0 ob)) (he0 ob) h0 (by omega) (by omega) (by omega)
  have F0 := Four.new w
  have HH : Hid (Buf w bb ao n c zs) := h
  obtain ⟨⟨l3, l4⟩, l5, l6⟩ := l
  clear h he
  go_enter Tryf.func22, Tryf.ntmps22
  go_wp2_with fail
  refine (C1 _ _).mono ?_
  rintro e w' ⟨rfl, hw'⟩
  subst w'
  go_wp2_with fail
  refine (C2 _ (hk0 _)).mono ?_
  rintro e w1 ⟨rfl, hb1⟩
  have hk1 := (hk0 _).trans (Kept.of_below hb1)
  have he1 := (he0 _).below hb1
  have HF1 := hide (F0.kept (Kept.of_below (bb := bb) hb1) (by omega))
  have qb := (HH.out.kept hk1).b
  have HK1 : Hid (Kept bb w w1) := hk1
  have HE1 : Hid (ErrIs w1 bb false) := he1
  clear hk0 he0 C1 F0 hb1 hk1 he1 C2
  go_wp2_with fail
  refine (inside_ok bb n c ao zs (p - b) 4 _ w1 (HH.out.kept HK1.out) HE1.out (by omega) (by omega) (by omega) (by omega)).mono ?_
  rintro e w' ⟨rfl, hw'⟩
  subst w'
  go_wp2_with fail
  refine (C3 _ HK1.out).mono ?_
  rintro e w2 ⟨rfl, hb2⟩
  have HK2 : Hid (Kept bb w w2) := HK1.out.trans (Kept.of_below hb2)
  have HE2 : Hid (ErrIs w2 bb false) := HE1.out.below hb2
  have HF2 := hide (HF1.out.kept (Kept.of_below (bb := bb) hb2) (show w.heap.size ≠ bb by omega))
  clear hb2 HK1 HE1 HF1 C3 qb
  go_wp2_with fail
  refine (C4 _ HK2.out).mono ?_
  rintro e w3 ⟨rfl, hb3⟩
  have HK3 : Hid (Kept bb w w3) := HK2.out.trans (Kept.of_below hb3)
  have HE3 : Hid (ErrIs w3 bb false) := HE2.out.below hb3
  have HF3 := hide (HF2.out.kept (Kept.of_below (bb := bb) hb3) (show w.heap.size ≠ bb by omega))
  have qb := (HH.out.kept HK3.out).b
  clear hb3 HK2 HE2 HF2 C4
  go_wp2_with fail
  refine (inside_no bb n c ao zs (p - b) vs _ w3 (HH.out.kept HK3.out) HE3.out (by omega) (by omega) (by omega)).mono ?_
  rintro e w9 ⟨rfl, hk9, he9⟩
  have HK9 : Hid (Kept bb w w9) := HK3.out.trans hk9
  have HE9 : Hid (ErrIs w9 bb true) := he9
  have HF9 := hide (HF3.out.kept hk9 (show w.heap.size ≠ bb by omega))
  clear hk9 he9 HK3 HE3 HF3 qb
  obtain ⟨q0, q1, q2, q3, q4, q5, q6, q7⟩ := HF9.out
  go_wp2
  refine bodyPost_ret (v := noTable) (by simp [results, Tryf.results22, go_sem, noTable, q0, q1, q2, q3]) rfl ⟨rfl, (((HK9.out.own (Nat.le_refl _) _).own (Nat.le_refl _) _).own (Nat.le_refl _) _).own (Nat.le_refl _) _, (((HE9.out.own (by omega) _).own (by omega) _).own (by omega) _).own (by omega) _⟩
set_option maxRecDepth 100000 in
set_option maxHeartbeats 1600000 in
theorem table_hm (bb n c : Nat) (ao : Option Addr) (zs : List Int) (p b vs ts : Int) (w : World) (h : Buf w bb ao n c zs) (he : ErrIs w bb false) (h0 : 0 ≤ p) (h1 : p ≤ (n : Int) - 4) (l1 : 0 ≤ b) (l2 : b ≤ 4294967295) (l : (0 ≤ vs ∧ vs ≤ 65535) ∧ 0 ≤ ts ∧ ts ≤ 65535) (hx : ¬ 2147483648 ≤ b)
    (hv2 : ¬ (p - b) < 0) (hv3 : ¬ (n : Int) - 4 < (p - b)) (q1 : ¬ vs < 4) (q2 : vs.tmod 2 = 0) (q3 : ¬ ts < 4) (q4 : ¬ (n : Int) - (p - b) < vs) (q5 : (n : Int) - p < ts)
    (C2 : ∀ w1, Kept bb w w1 → Calls Tryf.prog 28 #[.pointer (some ⟨bb, 0, none⟩), .int .i64 p] w1 fun e w' => e = .returned (.int .u32 b) ∧ Below w1.heap.size w1 w')
    (C3 : ∀ w1, Kept bb w w1 → Calls Tryf.prog 30 #[.pointer (some ⟨bb, 0, none⟩), .int .i64 (p - b)] w1 fun e w' => e = .returned (.int .i64 vs) ∧ Below w1.heap.size w1 w')
    (C4 : ∀ w1, Kept bb w w1 → Calls Tryf.prog 30 #[.pointer (some ⟨bb, 0, none⟩), .int .i64 ((p - b) + 2)] w1 fun e w' => e = .returned (.int .i64 ts) ∧ Below w1.heap.size w1 w') :
    Calls Tryf.prog 22 #[.pointer (some ⟨bb, 0, none⟩), .int .i64 p] w fun e w' => e = .returned (noTable) ∧ Kept bb w w' ∧ ErrIs w' bb true := by
  have hs := h.small
  have hw1 : wrap32 b = b := by unfold wrap32; omega
  have hw2 : wrap64 (b) = b := by unfold wrap64; omega
  have hw3 : wrap64 (p - b) = (p - b) := by unfold wrap64; omega
  have hlt := block_lt_of_cell h.b
  have hk0 := fun ob => Kept.of_below (bb := bb) ((Below.refl w.heap.size w).alloc (Nat.le_refl _) ob)
  have he0 := fun ob => he.below ((Below.refl w.heap.size w).alloc (Nat.le_refl _) ob)
  have C1 := fun s ob => inside_ok bb n c ao zs p 4 s (w.alloc ob) (h.kept (hk0 ob)) (he0 ob) h0 (by omega) (by omega) (by omega)
  have F0 := Four.new w
  have HH : Hid (Buf w bb ao n c zs) := h
  obtain ⟨⟨l3, l4⟩, l5, l6⟩ := l
  clear h he
  go_enter Tryf.func22, Tryf.ntmps22
  go_wp2_with fail
  refine (C1 _ _).mono ?_
  rintro e w' ⟨rfl, hw'⟩
  subst w'
  go_wp2_with fail
  refine (C2 _ (hk0 _)).mono ?_
  rintro e w1 ⟨rfl, hb1⟩
  have hk1 := (hk0 _).trans (Kept.of_below hb1)
  have he1 := (he0 _).below hb1
  have HF1 := hide (F0.kept (Kept.of_below (bb := bb) hb1) (by omega))
  have qb := (HH.out.kept hk1).b
  have HK1 : Hid (Kept bb w w1) := hk1
  have HE1 : Hid (ErrIs w1 bb false) := he1
  clear hk0 he0 C1 F0 hb1 hk1 he1 C2
  go_wp2_with fail
  refine (inside_ok bb n c ao zs (p - b) 4 _ w1 (HH.out.kept HK1.out) HE1.out (by omega) (by omega) (by omega) (by omega)).mono ?_
  rintro e w' ⟨rfl, hw'⟩
  subst w'
  go_wp2_with fail
  refine (C3 _ HK1.out).mono ?_
  rintro e w2 ⟨rfl, hb2⟩
  have HK2 : Hid (Kept bb w w2) := HK1.out.trans (Kept.of_below hb2)
  have HE2 : Hid (ErrIs w2 bb false) := HE1.out.below hb2
  have HF2 := hide (HF1.out.kept (Kept.of_below (bb := bb) hb2) (show w.heap.size ≠ bb by omega))
  clear hb2 HK1 HE1 HF1 C3 qb
  go_wp2_with fail
  refine (C4 _ HK2.out).mono ?_
  rintro e w3 ⟨rfl, hb3⟩
  have HK3 : Hid (Kept bb w w3) := HK2.out.trans (Kept.of_below hb3)
  have HE3 : Hid (ErrIs w3 bb false) := HE2.out.below hb3
  have HF3 := hide (HF2.out.kept (Kept.of_below (bb := bb) hb3) (show w.heap.size ≠ bb by omega))
  have qb := (HH.out.kept HK3.out).b
  clear hb3 HK2 HE2 HF2 C4
  go_wp2_with fail
  refine (inside_ok bb n c ao zs (p - b) vs _ w3 (HH.out.kept HK3.out) HE3.out (by omega) (by omega) (by omega) (by omega)).mono ?_
  rintro e w' ⟨rfl, hw'⟩
  subst w'
  go_wp2_with fail
  refine (inside_no bb n c ao zs p ts _ w3 (HH.out.kept HK3.out) HE3.out (by omega) (by omega) (by omega)).mono ?_
  rintro e w9 ⟨rfl, hk9, he9⟩
  have HK9 : Hid (Kept bb w w9) := HK3.out.trans hk9
  have HE9 : Hid (ErrIs w9 bb true) := he9
  have HF9 := hide (HF3.out.kept hk9 (show w.heap.size ≠ bb by omega))
  clear hk9 he9 HK3 HE3 HF3 qb
  obtain ⟨q0, q1, q2, q3, q4, q5, q6, q7⟩ := HF9.out
  go_wp2
  refine bodyPost_ret (v := noTable) (by simp [results, Tryf.results22, go_sem, noTable, q0, q1, q2, q3]) rfl ⟨rfl, (((HK9.out.own (Nat.le_refl _) _).own (Nat.le_refl _) _).own (Nat.le_refl _) _).own (Nat.le_refl _) _, (((HE9.out.own (by omega) _).own (by omega) _).own (by omega) _).own (by omega) _⟩
end Go.Proofs.Qxb6617024aFmt

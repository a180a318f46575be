import Derived.Test.Qxb6616771aSf
import Derived.Deep.DeepCutAuto
import Derived.Deep.RegionWith
namespace Go.Proofs.Qxb6616771a
open Go.RowKit Go.Sort

set_option maxRecDepth 100000 in
set_option maxHeartbeats 6000000 in
theorem law_main (ao1 ao2 : Option Addr) (n m c1 c2 : Nat) (sh at_ : Int) (ot : ByteArray) (xs ys : List ByteArray) (w : World) (h1 : SW w ao1 n xs) (h2 : SW w ao2 m ys)
    (hn : n ≤ 65536) (hm : m ≤ 65536) (ho : ot.size ≤ 65536) :
    Calls Try.prog 3 #[.slice ao1 n c1, .slice ao2 m c2, .int .i64 sh, .int .i64 at_, .string ot] w fun e w' => e = .returned (.bool true) ∧ Below w.heap.size w w' := by
  have H4 := bytes_any ao1 ao2 n m c1 c2 sh at_ ot xs ys w h1 h2 (by omega)
  have H1 : Hid (SW w ao1 n xs) := h1
  have H2 : Hid (SW w ao2 m ys) := h2
  clear h1 h2
  go_enter Try.func3, Try.ntmps3
  go_wp2_with fail
  refine H4.mono ?_
  rintro e w' ⟨⟨b, rfl⟩, hw⟩
  subst w'
  clear H4
  cases b
  · go_wp2
    go_ret
    exact ⟨rfl, Below.refl _ _⟩
  go_upto_if 51 with (fail)
  go_cut [0] from 30 (fun s0 wc => ∃ ao c, s0 = .slice ao n c ∧ n ≤ c ∧ Hid (SW wc ao n xs) ∧ Hid (Below w.heap.size w wc))
  case first => as_aux_lemma =>
    cases ao1 with
    | none =>
      have hnil := fun w => run_neq_slice_nil_any (P := Try.prog) w 22 9 none n c1 0 0 Try.underlying22
      go_wp2
      go_meet
      case rel => exact ⟨_, _, rfl, by have := H1.out.nil; omega, H1, Below.refl _ _⟩
    | some a =>
      have hnil := fun w => run_neq_slice_nil_any (P := Try.prog) w 22 9 (some a) n c1 0 0 Try.underlying22
      have hmk := make_row (t := 22) Try.underlying22 Try.info9 (by omega) n (by omega)
      obtain ⟨W, hcp, hW, hbW⟩ := H1.out.copied c1
      have HW : Hid (SW W (some ⟨w.heap.size, 0, none⟩) n xs) := hW
      clear hW
      go_wp2
      go_meet
      case rel => exact ⟨_, _, rfl, Nat.le_refl _, HW, hbW⟩
  case rest =>
  obtain ⟨ao1', c1', rfl, hcn, HN, HB1⟩ := hcut
  have HS2 : Hid (SW wc ao2 m ys) := H2.out.below HB1.out
  obtain ⟨w1, hw1⟩ : ∃ w1, w1 = wc := ⟨_, rfl⟩
  subst wc
  clear H1 H2
  go_upto_if 60 with (fail)
  go_cut [1] from 30 (fun s1 wc => ∃ ao c, s1 = .slice ao m c ∧ m ≤ c ∧ Hid (SW wc ao m ys) ∧ Hid (Below w1.heap.size w1 wc))
  case first => as_aux_lemma =>
    cases ao2 with
    | none =>
      have hnil := fun w => run_neq_slice_nil_any (P := Try.prog) w 22 9 none m c2 0 0 Try.underlying22
      go_wp2
      go_meet
      case rel => exact ⟨_, _, rfl, by have := HS2.out.nil; omega, HS2, Below.refl _ _⟩
    | some a =>
      have hnil := fun w => run_neq_slice_nil_any (P := Try.prog) w 22 9 (some a) m c2 0 0 Try.underlying22
      have hmk := make_row (t := 22) Try.underlying22 Try.info9 (by omega) m (by omega)
      obtain ⟨W, hcp, hW, hbW⟩ := HS2.out.copied c2
      have HW : Hid (SW W (some ⟨w1.heap.size, 0, none⟩) m ys) := hW
      clear hW
      go_wp2
      go_meet
      case rel => exact ⟨_, _, rfl, Nat.le_refl _, HW, hbW⟩
  case rest =>
  obtain ⟨ao2', c2', rfl, hcm, HO, HB2⟩ := hcut
  have HN2 : Hid (SW wc ao1' n xs) := HN.out.below HB2.out
  have HB : Hid (Below w.heap.size w wc) := HB1.out.trans (HB2.out.mono HB1.out.size)
  obtain ⟨w2, hw2⟩ : ∃ w2, w2 = wc := ⟨_, rfl⟩
  subst wc
  clear HN HB1 HB2 HS2
  have H5a := sum_any ao1' n c1' 1048576 xs w2 HN2.out
  have H5b := sum_any ao2' m c2' 1048576 ys w2 HO.out
  go_wp2_with fail
  refine H5a.mono ?_
  rintro e w' ⟨⟨r1, rfl⟩, hw⟩
  subst w'
  clear H5a
  go_wp2_with fail
  · go_ret
    exact ⟨rfl, HB.out⟩
  refine H5b.mono ?_
  rintro e w' ⟨⟨r2, rfl⟩, hw⟩
  subst w'
  clear H5b
  have hmkn := make_row (t := 25) Try.underlying25 Try.info3 (by omega) n (by omega)
  have hmkm := make_row (t := 25) Try.underlying25 Try.info3 (by omega) m (by omega)
  go_wp2_with fail
  · go_ret
    exact ⟨rfl, HB.out⟩
  go_loopw [18] (fun i wr => ∃ k : Nat, k ≤ n ∧ i = .int .i64 k ∧ Hid (IInv w2 wr w2.heap.size n) ∧ Hid (IInv w2 wr (w2.heap.size + 1) n)) (fun i _ => n - (intOf i).toNat)
  case atStart =>
    exact ⟨0, Nat.zero_le _, rfl, IInv.first w2 n, IInv.second w2 n⟩
  case round =>
    obtain ⟨k, hk, rfl, HI1, HI2⟩ := hrel
    by_cases hlt : k < n
    · as_aux_lemma =>
      obtain ⟨⟨z1, q1⟩, f1⟩ := HI1.out.row k hlt
      obtain ⟨⟨z2, q2⟩, f2⟩ := HI2.out.row k hlt
      have l1 := HI1.out.lt
      have l2 := HI2.out.lt
      clear hmkn hmkm
      go_wp2
      go_roundw
      case rel => exact ⟨k + 1, by omega, by go_num, (HI1.out.set (Nat.le_refl _) q1 _).set (by omega) (by rw [World.cell?_setCell_other _ _ _ _ (by intro q; simp at q)]; exact q2) _, (HI2.out.set (Nat.le_refl _) q1 _).set (by omega) (by rw [World.cell?_setCell_other _ _ _ _ (by intro q; simp at q)]; exact q2) _⟩
      case measure => simp [intOf]; omega
    · have HP1 : Hid (Ints wr w2.heap.size n) := HI1.out.ints
      have HP2 : Hid (Ints wr (w2.heap.size + 1) n) := HI2.out.ints
      have HB3 : Hid (Below w2.heap.size w2 wr) := HI1.out.below
      have HN3 : Hid (SW wr ao1' n xs) := HN2.out.below HB3.out
      have HO3 : Hid (SW wr ao2' m ys) := HO.out.below HB3.out
      have HBB : Hid (Below w.heap.size w wr) := HB.out.trans (HB3.out.mono HB.out.size)
      obtain ⟨w3, hw3⟩ : ∃ w3, w3 = wr := ⟨_, rfl⟩
      subst wr
      clear HI1 HI2 HB3 HN2 HO HB hmkn
      go_wp2_with fail
      go_loopw [21] (fun i wr => ∃ k : Nat, k ≤ m ∧ i = .int .i64 k ∧ Hid (IInv w3 wr w3.heap.size m) ∧ Hid (IInv w3 wr (w3.heap.size + 1) m)) (fun i _ => m - (intOf i).toNat)
      case atStart =>
        exact ⟨0, Nat.zero_le _, rfl, IInv.first w3 m, IInv.second w3 m⟩
      case round =>
        obtain ⟨k2, hk2, rfl, HI1, HI2⟩ := hrel
        by_cases hlt2 : k2 < m
        · as_aux_lemma =>
          obtain ⟨⟨z1, q1⟩, f1⟩ := HI1.out.row k2 hlt2
          obtain ⟨⟨z2, q2⟩, f2⟩ := HI2.out.row k2 hlt2
          have l1 := HI1.out.lt
          have l2 := HI2.out.lt
          clear hmkm
          go_wp2
          go_roundw
          case rel => exact ⟨k2 + 1, by omega, by go_num, (HI1.out.set (Nat.le_refl _) q1 _).set (by omega) (by rw [World.cell?_setCell_other _ _ _ _ (by intro q; simp at q)]; exact q2) _, (HI2.out.set (Nat.le_refl _) q1 _).set (by omega) (by rw [World.cell?_setCell_other _ _ _ _ (by intro q; simp at q)]; exact q2) _⟩
          case measure => simp [intOf]; omega
        · have HB4 : Hid (Below w3.heap.size w3 wr) := HI1.out.below
          have HST : Hid (St w wr ao1' ao2' n m w2.heap.size (w2.heap.size + 1) w3.heap.size (w3.heap.size + 1) xs ys) :=
            ⟨HN3.out.below HB4.out, HO3.out.below HB4.out, HP1.out.below HB4.out, HP2.out.below HB4.out, HI1.out.ints, HI2.out.ints, HBB.out.trans (HB4.out.mono HBB.out.size)⟩
          obtain ⟨w4, hw4⟩ : ∃ w4, w4 = wr := ⟨_, rfl⟩
          subst wr
          clear HI1 HI2 HB4 HN3 HO3 HP1 HP2 HBB hmkm
          generalize w2.heap.size = pa at *
          generalize w3.heap.size = qa at *
          go_wp2_with fail
          refine (chain_made ao1' ao2' n m c1' c2' n m pa qa xs ys w4 (HST.out.names.strs hn) (HST.out.ops.strs hm) HST.out.p1 HST.out.q1).mono ?_
          rintro e w5 ⟨ga, rfl, hca, hb5⟩
          have HST5 : Hid (St w w5 ao1' ao2' n m pa (pa + 1) qa (qa + 1) xs ys) := HST.out.later hb5
          have HCA : Hid (IsChain w5 ga xs ys) := hca
          clear hca hb5 HST
          go_wp2_with fail
          refine (chain_made ao1' ao2' n m c1' c2' n m (pa + 1) (qa + 1) xs ys w5 (HST5.out.names.strs hn) (HST5.out.ops.strs hm) HST5.out.p2 HST5.out.q2).mono ?_
          rintro e w6 ⟨gb, rfl, hcb, hb6⟩
          have HT : Hid (Two w w6 ao1' ao2' n m pa (pa + 1) qa (qa + 1) ga gb xs ys) := ⟨HST5.out.later hb6, HCA.out.below hb6, hcb⟩
          clear hcb hb6 HST5 HCA
          go_wp2_with fail
          refine (same_yes HT.out.a HT.out.b).mono ?_
          rintro e w7 ⟨rfl, hb7⟩
          have HT7 : Hid (Two w w7 ao1' ao2' n m pa (pa + 1) qa (qa + 1) ga gb xs ys) := HT.out.later hb7
          clear hb7 HT
          go_wp2_with fail
          refine (same_yes HT7.out.b HT7.out.a).mono ?_
          rintro e w8 ⟨rfl, hb8⟩
          have HT8 : Hid (Two w w8 ao1' ao2' n m pa (pa + 1) qa (qa + 1) ga gb xs ys) := HT7.out.later hb8
          clear hb8 HT7
          go_wp2_with fail
          refine (same_yes HT8.out.a HT8.out.a).mono ?_
          rintro e w9 ⟨rfl, hb9⟩
          have HT9 : Hid (Two w w9 ao1' ao2' n m pa (pa + 1) qa (qa + 1) ga gb xs ys) := HT8.out.later hb9
          clear hb9 HT8
          have hmkc := make_row (t := 22) Try.underlying22 Try.info9 (by omega) n (by omega)
          go_upto_region 39 with (fail)
          go_cut [155] from 30 (fun s wc => s = .bool (inR at_ n) ∧ Hid (Two w wc ao1' ao2' n m pa (pa + 1) qa (qa + 1) ga gb xs ys))
          case first => as_aux_lemma =>
            by_cases h0 : 0 ≤ at_
            · by_cases h1 : at_ < (n : Int)
              · have hi : Hid (inR at_ n = true) := decide_eq_true ⟨h0, h1⟩
                go_wp2
                go_meet
                case rel => exact ⟨by rw [hi.out], HT9⟩
              · have hi : Hid (inR at_ n = false) := decide_eq_false (fun h => h1 h.2)
                go_wp2
                go_meet
                case rel => exact ⟨by rw [hi.out], HT9⟩
            · have hi : Hid (inR at_ n = false) := decide_eq_false (fun h => h0 h.1)
              go_wp2
              go_meet
              case rel => exact ⟨by rw [hi.out], HT9⟩
          case rest =>
          obtain ⟨rfl, HTA⟩ := hcut
          obtain ⟨wa, hwa⟩ : ∃ wa, wa = wc := ⟨_, rfl⟩
          subst wc
          clear HT9
          go_upto_if 155 with (fail)
          go_cut [24] from 30 (fun _ wc => Hid (Two w wc ao1' ao2' n m pa (pa + 1) qa (qa + 1) ga gb xs ys))
          case first => as_aux_lemma =>
            cases hin : inR at_ n with
            | false =>
              go_wp2
              go_meet
              case rel => exact HTA
            | true =>
              obtain ⟨h0, hat1⟩ := of_decide_eq_true hin
              clear hin
              obtain ⟨ka, rfl⟩ := Int.eq_ofNat_of_zero_le h0
              have hka : ka < n := by omega
              go_wp2_with fail
              go_loopw [25] (fun i wr => ∃ k3 : Nat, k3 ≤ n ∧ i = .int .i64 k3 ∧ Hid (SInv wa wr wa.heap.size n k3 xs)) (fun i _ => n - (intOf i).toNat)
              case atStart =>
                exact ⟨0, Nat.zero_le _, rfl, SInv.start wa n xs⟩
              case round =>
                obtain ⟨k3, hk3, rfl, HI⟩ := hrel
                by_cases hlt3 : k3 < n
                · obtain ⟨bk, o, x, hao, hx, hcx, _⟩ := HTA.out.st.names.get hlt3
                  subst hao
                  have q1 := cell_below HI.out.below hcx
                  obtain ⟨⟨s0, q2⟩, f2⟩ := HI.out.row k3 hlt3
                  have l1 := HI.out.lt
                  have HX : Hid (xs[k3]? = some x) := hx
                  clear hx hcx hmkc
                  go_wp2
                  go_roundw
                  case rel => exact ⟨k3 + 1, by omega, by go_num, HI.out.step hlt3 HX.out⟩
                  case measure => simp [intOf]; omega
                · obtain rfl : k3 = n := by omega
                  obtain ⟨⟨s0, q2⟩, f2⟩ := HI.out.row ka hka
                  obtain ⟨bk, o, x, hao, hx, hcx, _⟩ := HTA.out.st.names.get hka
                  subst hao
                  have HP : Hid _ := HI.out.put HTA.out.st.names.len hn hka ot
                  have HTB : Hid (Two w (wr.setCell ⟨wa.heap.size, ka, none⟩ (.string ot)) (some ⟨bk, o, none⟩) ao2' k3 m pa (pa + 1) qa (qa + 1) ga gb xs ys) := HTA.out.later HP.out.2
                  have HPS : Hid (Strs (wr.setCell ⟨wa.heap.size, ka, none⟩ (.string ot)) (some ⟨wa.heap.size, 0, none⟩) k3 (xs.set ka ot)) := HP.out.1
                  have HX : Hid (xs[ka]? = some x) := hx
                  have hcb := cell_below HP.out.2 hcx
                  clear hmkc hx hcx HP HI HTA
                  go_wp2_with fail
                  refine (chain_made (some ⟨wa.heap.size, 0, none⟩) ao2' k3 m k3 c2' k3 m pa qa (xs.set ka ot) ys _ HPS.out (HTB.out.st.ops.strs hm) HTB.out.st.p1 HTB.out.st.q1).mono ?_
                  rintro e wd ⟨gc, rfl, hcc, hbd⟩
                  have hcd := cell_below hbd hcb
                  have HTD : Hid (Two w wd (some ⟨bk, o, none⟩) ao2' k3 m pa (pa + 1) qa (qa + 1) ga gb xs ys) := HTB.out.later hbd
                  have HCC : Hid (IsChain wd gc (xs.set ka ot) ys) := hcc
                  clear hcc hbd hcb HTB HPS
                  have HQ : Hid (eqL xs (xs.set ka ot) = (ot.toList == x.toList) ∧ eqL (xs.set ka ot) xs = (ot.toList == x.toList)) := eqL_set (ot := ot) HX.out
                  cases hq : (ot.toList == x.toList) with
                  | false =>
                    go_wp2_with fail
                    refine (same_is false HTD.out.a HCC.out (by rw [HQ.out.1, hq]; simp)).mono ?_
                    rintro e we ⟨rfl, hbe⟩
                    have HTE : Hid (Two w we (some ⟨bk, o, none⟩) ao2' k3 m pa (pa + 1) qa (qa + 1) ga gb xs ys) := HTD.out.later hbe
                    have HCE : Hid (IsChain we gc (xs.set ka ot) ys) := HCC.out.below hbe
                    clear hbe HTD HCC
                    go_wp2_with fail
                    refine (same_is false HCE.out HTE.out.b (by rw [HQ.out.2, hq]; simp)).mono ?_
                    rintro e wf ⟨rfl, hbf⟩
                    have HTF : Hid (Two w wf (some ⟨bk, o, none⟩) ao2' k3 m pa (pa + 1) qa (qa + 1) ga gb xs ys) := HTE.out.later hbf
                    clear hbf HTE HCE
                    go_wp2
                    go_meet
                    case rel => exact HTF
                  | true =>
                    go_wp2_with fail
                    refine (same_is true HTD.out.a HCC.out (by rw [HQ.out.1, hq, eqL_refl]; rfl)).mono ?_
                    rintro e we ⟨rfl, hbe⟩
                    have HTE : Hid (Two w we (some ⟨bk, o, none⟩) ao2' k3 m pa (pa + 1) qa (qa + 1) ga gb xs ys) := HTD.out.later hbe
                    have HCE : Hid (IsChain we gc (xs.set ka ot) ys) := HCC.out.below hbe
                    clear hbe HTD HCC
                    go_wp2_with fail
                    refine (same_is true HCE.out HTE.out.b (by rw [HQ.out.2, hq, eqL_refl]; rfl)).mono ?_
                    rintro e wf ⟨rfl, hbf⟩
                    have HTF : Hid (Two w wf (some ⟨bk, o, none⟩) ao2' k3 m pa (pa + 1) qa (qa + 1) ga gb xs ys) := HTE.out.later hbf
                    clear hbf HTE HCE
                    go_wp2
                    go_meet
                    case rel => exact HTF
          case rest =>
          clear HTA
          have HTG := hcut
          clear hcut
          obtain ⟨wg, hwg⟩ : ∃ wg, wg = wc := ⟨_, rfl⟩
          subst wc
          go_upto_if 198 with (fail)
          go_cut [28] from 30 (fun _ wc => Hid (Two w wc ao1' ao2' n m pa (pa + 1) qa (qa + 1) ga gb xs ys))
          case first =>
            by_cases hn0 : 0 < n
            case neg =>
              go_wp2
              go_meet
              case rel => exact HTG
            obtain ⟨n1, hn1⟩ : ∃ n1, n1 = n - 1 := ⟨_, rfl⟩
            have HD : Hid (eqL xs (xs.take n1) = false ∧ eqL (xs.take n1) xs = false) := by rw [hn1]; exact eqL_drop HTG.out.st.names.len hn0
            have he : (n : Int) - 1 = (n1 : Int) := by omega
            have hw1 : IntKind.i64.wrap (n1 : Int) = (n1 : Int) := by rw [IntKind.wrap_i64]; omega
            have hle : n1 ≤ n := by omega
            have hle2 : n1 ≤ c1' := by omega
            obtain ⟨bk, o, x, hao, hx, hcx, _⟩ := HTG.out.st.names.get hn0
            subst hao
            clear hmkc hn1 hx hcx
            go_wp2_with fail
            have HTD : Hid (Two w wg.drew (some ⟨bk, o, none⟩) ao2' n m pa (pa + 1) qa (qa + 1) ga gb xs ys) := HTG.out.later (Below.refl _ _).drew
            clear HTG
            go_region_with (go_at_call 6; refine (chain_made (some ⟨bk, o, none⟩) ao2' n1 m c1' c2' n m pa qa (xs.take n1) ys wg.drew ((HTD.out.st.names.strs hn).take n1 (by omega)) (HTD.out.st.ops.strs hm) (HTD.out.st.p1.less (by omega)) HTD.out.st.q1).mono ?_; rintro e wh ⟨gd, rfl, hcd, hbh⟩)
            have HTH : Hid (Two w wh (some ⟨bk, o, none⟩) ao2' n m pa (pa + 1) qa (qa + 1) ga gb xs ys) := HTD.out.later hbh
            have HCH : Hid (IsChain wh gd (xs.take n1) ys) := hcd
            clear hcd hbh HTD
            go_wp2_with fail
            refine (same_is false HTH.out.a HCH.out (by rw [HD.out.1]; simp)).mono ?_
            rintro e wi ⟨rfl, hbi⟩
            have HTI : Hid (Two w wi (some ⟨bk, o, none⟩) ao2' n m pa (pa + 1) qa (qa + 1) ga gb xs ys) := HTH.out.later hbi
            have HCI : Hid (IsChain wi gd (xs.take n1) ys) := HCH.out.below hbi
            clear hbi HTH HCH
            go_wp2_with fail
            refine (same_is false HCI.out HTI.out.b (by rw [HD.out.2]; simp)).mono ?_
            rintro e wj ⟨rfl, hbj⟩
            have HTJ : Hid (Two w wj (some ⟨bk, o, none⟩) ao2' n m pa (pa + 1) qa (qa + 1) ga gb xs ys) := HTI.out.later hbj
            clear hbj HTI HCI
            go_wp2
            go_meet
            case rel => exact HTJ
          case rest =>
          have HTK := hcut
          clear hcut HTG
          obtain ⟨wk, hwk⟩ : ∃ wk, wk = wc := ⟨_, rfl⟩
          subst wc
          by_cases hm0 : 0 < m
          case neg =>
            go_wp2
            go_ret
            exact ⟨rfl, HTK.out.st.below⟩
          obtain ⟨m1, hm1⟩ : ∃ m1, m1 = m - 1 := ⟨_, rfl⟩
          have HD : Hid (eqL ys (ys.take m1) = false ∧ eqL (ys.take m1) ys = false) := by rw [hm1]; exact eqL_drop HTK.out.st.ops.len hm0
          have he : (m : Int) - 1 = (m1 : Int) := by omega
          have hw1 : IntKind.i64.wrap (m1 : Int) = (m1 : Int) := by rw [IntKind.wrap_i64]; omega
          have hle : m1 ≤ m := by omega
          have hle2 : m1 ≤ c2' := by omega
          obtain ⟨bk, o, x, hao, hx, hcx, _⟩ := HTK.out.st.ops.get hm0
          subst hao
          clear hmkc hm1 hx hcx
          go_wp2_with fail
          have HTD : Hid (Two w wk.drew ao1' (some ⟨bk, o, none⟩) n m pa (pa + 1) qa (qa + 1) ga gb xs ys) := HTK.out.later (Below.refl _ _).drew
          clear HTK
          go_region_with (go_at_call 6; refine (chain_made ao1' (some ⟨bk, o, none⟩) n m1 c1' c2' n m pa qa xs (ys.take m1) wk.drew (HTD.out.st.names.strs hn) ((HTD.out.st.ops.strs hm).take m1 (by omega)) HTD.out.st.p1 (HTD.out.st.q1.less (by omega))).mono ?_; rintro e wh ⟨gd, rfl, hcd, hbh⟩)
          have HTH : Hid (Two w wh ao1' (some ⟨bk, o, none⟩) n m pa (pa + 1) qa (qa + 1) ga gb xs ys) := HTD.out.later hbh
          have HCH : Hid (IsChain wh gd xs (ys.take m1)) := hcd
          clear hcd hbh HTD
          go_wp2_with fail
          refine (same_is false HTH.out.a HCH.out (by rw [HD.out.1]; simp)).mono ?_
          rintro e wi ⟨rfl, hbi⟩
          have HTI : Hid (Two w wi ao1' (some ⟨bk, o, none⟩) n m pa (pa + 1) qa (qa + 1) ga gb xs ys) := HTH.out.later hbi
          clear hbi HTH HCH
          go_wp2
          go_ret
          exact ⟨rfl, HTI.out.st.below⟩
end Go.Proofs.Qxb6616771a

import Derived.Test.Qxb6616771aSb
namespace Go.Proofs.Qxb6616771a
open Go.RowKit Go.Sort

/-- A chain at the head of block g: its operands' names, its operators' texts. -/
def IsChain (w : World) (g : Nat) (ns os : List ByteArray) : Prop :=
  ∃ go gc cn cm, w.cell? ⟨g, 0, none⟩ = some (.slice (some ⟨go, 0, none⟩) ns.length cn) ∧ w.cell? ⟨g, 1, none⟩ = some (.slice (some ⟨gc, 0, none⟩) os.length cm) ∧
    Cols w go ns ∧ Opers w gc os ∧ ns.length ≤ 65536 ∧ os.length ≤ 65536

theorem IsChain.below {w w' : World} {g : Nat} {ns os : List ByteArray} (h : IsChain w g ns os) (hb : Below w.heap.size w w') : IsChain w' g ns os := by
  obtain ⟨go, gc, cn, cm, h1, h2, h3, h4, h5, h6⟩ := h
  exact ⟨go, gc, cn, cm, cell_below hb h1, cell_below hb h2, h3.below hb, h4.below hb, h5, h6⟩

set_option maxRecDepth 100000 in
set_option maxHeartbeats 1000000 in
theorem chain_same (a b : Nat) (n1 o1 n2 o2 : List ByteArray) (w : World) (ha : IsChain w a n1 o1) (hb : IsChain w b n2 o2) :
    Calls Try.prog 8 #[.iface 26 (.pointer (some ⟨a, 0, none⟩)), .iface 26 (.pointer (some ⟨b, 0, none⟩))] w fun e w' => e = .returned (.bool (eqL o1 o2 && eqL n1 n2)) ∧ Below w.heap.size w w' := by
  obtain ⟨go1, gc1, cn1, cm1, x1, x2, x3, x4, x5, x6⟩ := ha
  obtain ⟨go2, gc2, cn2, cm2, y1, y2, y3, y4, y5, y6⟩ := hb
  have kx1 := cell_regrown x1
  have kx2 := cell_regrown x2
  have ky1 := cell_regrown y1
  have ky2 := cell_regrown y2
  have cO : ∀ d os, Calls Try.prog 9 #[.slice (some ⟨gc1, 0, none⟩) o1.length cm1, .slice (some ⟨gc2, 0, none⟩) o2.length cm2, .func (.func 10) #[] #[]] (grow (redrawn w d) os) fun e w'' => e = .returned (.bool (eqL o1 o2)) ∧ ∃ p : Regrown, w'' = grow (redrawn w p.d) p.os :=
    fun d os => Calls.regrown_of (opers_equal gc1 gc2 _ _ cm1 cm2 o1 o2 _ (x4.below (below_regrown w d os)) (y4.below (below_regrown w d os)) rfl rfl x6 y6)
  have cN : ∀ d os, Calls Try.prog 11 #[.slice (some ⟨go1, 0, none⟩) n1.length cn1, .slice (some ⟨go2, 0, none⟩) n2.length cn2, .func (.func 8) #[] #[]] (grow (redrawn w d) os) fun e w'' => e = .returned (.bool (eqL n1 n2)) ∧ ∃ p : Regrown, w'' = grow (redrawn w p.d) p.os :=
    fun d os => Calls.regrown_of (cols_equal go1 go2 _ _ cn1 cn2 n1 n2 _ (x3.below (below_regrown w d os)) (y3.below (below_regrown w d os)) rfl rfl x5 y5)
  have s1 := as26_42
  have s2 := as26_47
  have s3 := as26_30
  have s4 := as26_52
  have s5 := as26_56
  have s6 := as26_26
  clear x1 x2 x3 x4 y1 y2 y3 y4
  generalize eqL o1 o2 = eo at *
  generalize eqL n1 n2 = en at *
  cases eo with
  | false =>
    go_enter Try.func8, Try.ntmps8
    go_wp2_with fail
    refine wp_region_quiet_below (by kernel_rfl) (by kernel_rfl) ?_
    iterate 11 (go_big_quiet_step (exact cO _ _))
    repeat (go_big_quiet_step (fail))
    refine wpQuiet_nil ?_
    intro _ hw'
    obtain ⟨⟨dq, osq⟩, hw''⟩ := hw'
    subst hw''
    go_wp2
    go_ret
    exact ⟨rfl, below_regrown w dq osq⟩
  | true =>
    go_enter Try.func8, Try.ntmps8
    go_wp2_with fail
    refine wp_region_quiet_below (by kernel_rfl) (by kernel_rfl) ?_
    iterate 11 (go_big_quiet_step (exact cO _ _))
    iterate 11 (go_big_quiet_step (exact cN _ _))
    repeat (go_big_quiet_step (fail))
    refine wpQuiet_nil ?_
    intro _ hw'
    obtain ⟨⟨dq, osq⟩, hw''⟩ := hw'
    subst hw''
    go_wp2
    go_ret
    exact ⟨rfl, below_regrown w dq osq⟩

set_option maxHeartbeats 400000 in
/-- ZZSameChains. -/
theorem same_chains (a b : Nat) (n1 o1 n2 o2 : List ByteArray) (w : World) (ha : IsChain w a n1 o1) (hb : IsChain w b n2 o2) :
    Calls Try.prog 7 #[.pointer (some ⟨a, 0, none⟩), .pointer (some ⟨b, 0, none⟩)] w fun e w' => e = .returned (.bool (eqL o1 o2 && eqL n1 n2)) ∧ Below w.heap.size w w' := by
  have H := chain_same a b n1 o1 n2 o2 w ha hb
  clear ha hb
  generalize (eqL o1 o2 && eqL n1 n2) = r at *
  go_enter Try.func7, Try.ntmps7
  go_wp2_with fail
  refine H.mono ?_
  rintro e w1 ⟨rfl, hb1⟩
  go_wp2
  go_ret
  exact ⟨rfl, hb1⟩
end Go.Proofs.Qxb6616771a

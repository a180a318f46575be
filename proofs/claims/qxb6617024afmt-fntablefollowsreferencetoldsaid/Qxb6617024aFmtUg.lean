import Derived.Test.Qxb6617024aFmtUf
import Derived.Test.Qxb6617024aFmtUd
namespace Go.Proofs.Qxb6617024aFmt
open Go.RowKit Go.Extern.Stop Go.Stop Go.Extern

/-- The copy still serves for a second buffer. -/
theorem ready_again {w w1 w2 : World} {co : Option Addr} {n c2 : Nat} {zs : List Int} (hR : Ready w co n c2 zs w1) (hk : Kept w1.heap.size (w1.alloc (bufObj co n c2)) w2) : Ready w co n c2 zs w2 := by
  have hB := hR.2.kept hk
  have hs := hR.1.size
  refine ⟨(hR.1.trans ((al w1 _).mono hs)).trans (hk.below (B := w.heap.size) hs (by simp; omega)), newBuf_b _ _ _ _, newBuf_fz _ _ _ _, hB.len, hB.small, hB.cap, fun h0 => ?_, hB.wf⟩
  obtain ⟨g, o, e, _, hc⟩ := hB.row h0
  refine ⟨g, o, e, ?_, fun j z hj => cell_below (al w2 _) (hc j z hj)⟩
  have hl := hB.len
  cases hzs : zs with
  | nil => rw [hzs] at hl; simp at hl; omega
  | cons z r =>
    have := block_lt_of_cell (hc 0 z (by rw [hzs]; rfl))
    simp at this
    omega

theorem law5_ready (ao co : Option Addr) (n c c2 : Nat) (p s : Int) (zs : List Int) (w : World) (h : Bytes w ao n zs) (hs : 0 ≤ s)
    (K8 : Calls Tryf.prog 8 #[.slice ao n c] w fun e w' => e = .returned (.slice co n c2) ∧ Ready w co n c2 zs w') :
    Calls Tryf.prog 5 #[.slice ao n c, .int .i64 p, .int .i64 s] w fun e w' => e = .returned (.bool true) ∧ Below w.heap.size w w' := by
  have hn := h.small
  have G : ∀ w1, Ready w co n c2 zs w1 → Below w.heap.size w w1 := fun w1 k => k.1
  by_cases hg : good zs p
  · have K10 := fun (w1 : World) (hR : Ready w co n c2 zs w1) => open_good hR hg
    by_cases f1 : Found zs p s
    · have K15 := fun (w1 w2 : World) (hR : Ready w co n c2 zs w1) (hk : Kept w1.heap.size (w1.alloc (bufObj co n c2)) w2) (he : ErrIs w2 w1.heap.size false) => get_found w1.heap.size n c2 co zs p s w2 (hR.2.kept hk) he hs f1
      have K16 := fun (w1 : World) (hb : Below w.heap.size w w1) => child_found n c p s ao zs w1 (h.below hb) hs f1
      have gt : good zs (target zs p s) := f1.2.2.2.2.2
      exact follow_f ao co n c c2 p s _ (fun b => some ⟨b, 0, none⟩) _ _ _ _ _ _ _ _ w hn hs G K8 K10 K15 K16
        (fun w1 w2 hR hk => (open_good (ready_again hR hk) gt).mono fun _ _ k => ⟨k.1, k.2.1⟩)
    · by_cases a1 : Absent zs p s
      · have K15 := fun (w1 w2 : World) (hR : Ready w co n c2 zs w1) (hk : Kept w1.heap.size (w1.alloc (bufObj co n c2)) w2) (he : ErrIs w2 w1.heap.size false) => get_absent w1.heap.size n c2 co zs p s w2 (hR.2.kept hk) he hs hg a1
        have K16 := fun (w1 : World) (hb : Below w.heap.size w w1) => child_absent n c p s ao zs w1 (h.below hb) hs a1
        exact follow_n ao co n c c2 p s _ (fun b => some ⟨b, 0, none⟩) _ _ _ _ _ _ w hn hs G K8 K10 K15 K16
      · have K15 := fun (w1 w2 : World) (hR : Ready w co n c2 zs w1) (hk : Kept w1.heap.size (w1.alloc (bufObj co n c2)) w2) (he : ErrIs w2 w1.heap.size false) => get_refused w1.heap.size n c2 co zs p s w2 (hR.2.kept hk) he hs a1 f1
        have K16 := fun (w1 : World) (hb : Below w.heap.size w w1) => child_refused n c p s ao zs w1 (h.below hb) hs a1 f1
        exact follow_n ao co n c c2 p s _ (fun b => some ⟨b, 0, none⟩) _ _ _ _ _ _ w hn hs G K8 K10 K15 K16
  · have K10 := fun (w1 : World) (hR : Ready w co n c2 zs w1) => open_bad hR hg
    have K15 := fun (w1 w2 : World) (_ : Ready w co n c2 zs w1) (hk : Kept w1.heap.size (w1.alloc (bufObj co n c2)) w2) (he : ErrIs w2 w1.heap.size (decide (0 ≤ p))) => get_zero w1.heap.size s _ w2 (kept_lt hk) he
    have K16 := fun (w1 : World) (hb : Below w.heap.size w w1) => child_absent n c p s ao zs w1 (h.below hb) hs (.inl hg)
    exact follow_n ao co n c c2 p s _ (fun _ => none) _ _ _ _ _ _ w hn hs G K8 K10 K15 K16

theorem law5_any {w : World} {ao : Option Addr} {n c : Nat} {zs : List Int} (h : Handed w ao n c zs) (p s : Int) :
    Calls Tryf.prog 5 #[.slice ao n c, .int .i64 p, .int .i64 s] w fun e w' => e = .returned (.bool true) ∧ Below w.heap.size w w' := by
  by_cases hn : n ≤ 1048576
  · by_cases hs : 0 ≤ s
    · obtain ⟨co, c2, K8⟩ := clone_any h hn
      exact law5_ready ao co n c c2 p s zs w ⟨h.len, hn, h.row, h.wf⟩ hs K8
    · exact law5_s ao n c p s w hn (by omega)
  · exact law5_big ao n c p s w (by omega)
end Go.Proofs.Qxb6617024aFmt

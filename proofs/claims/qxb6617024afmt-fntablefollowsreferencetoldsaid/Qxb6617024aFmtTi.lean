import Derived.Test.Qxb6617024aFmtTh
namespace Go.Proofs.Qxb6617024aFmt
open Go.RowKit Go.Extern.Stop Go.Stop Go.Extern

/-- What the reference answers at a place. -/
def layTuple (zs : List Int) (p : Int) (g : Bool) : Value := if g then .tuple #[.bool true, .int .i64 (vtab zs p), .int .i64 (slots zs p)] else .tuple #[.bool false, .int .i64 0, .int .i64 0]

theorem layout_walk (n c : Nat) (p : Int) (ao : Option Addr) (zs : List Int) (w : World) (h : Bytes w ao n zs) (g : Bool) (hg : g = true ↔ good zs p) :
    Calls Tryf.prog 12 #[.slice ao n c, .int .i64 p] w fun e w' => e = .returned (layTuple zs p g) ∧ Below w.heap.size w w' := by
  have hs := h.small
  have hl := h.len
  have hneg : ¬ good zs p → layTuple zs p g = .tuple #[.bool false, .int .i64 0, .int .i64 0] := by
    intro hn
    cases g with
    | false => rfl
    | true => exact absurd (hg.1 rfl) hn
  have hpos : good zs p → layTuple zs p g = .tuple #[.bool true, .int .i64 (vtab zs p), .int .i64 (slots zs p)] := by
    intro hn
    rw [hg.2 hn]
    rfl
  by_cases h1 : 0 ≤ p ∧ p ≤ (n : Int) - 4
  rotate_left
  · rw [hneg (fun k => h1 ⟨k.1, by rw [← hl]; exact k.2.1⟩)]
    exact layout_far n c p ao w hs h1
  by_cases h2 : 0 ≤ vtab zs p ∧ vtab zs p ≤ (n : Int) - 4
  rotate_left
  · rw [hneg (fun k => h2 ⟨k.2.2.1, by rw [← hl]; exact k.2.2.2.1⟩)]
    exact layout_vt n c p ao zs w h h1.1 h1.2 h2
  obtain ⟨h0, h1⟩ := h1
  obtain ⟨v0, v1⟩ := h2
  have C1 := zzle32_walk n c p ao zs w h h0 (by omega)
  have C2 := fun (w1 : World) (hb : Below w.heap.size w w1) => zzle16_walk n c (vtab zs p) ao zs w1 (h.below hb) v0 (by omega)
  have C3 := fun (w1 : World) (hb : Below w.heap.size w w1) => zzle16_walk n c (vtab zs p + 2) ao zs w1 (h.below hb) (by omega) (by omega)
  obtain ⟨l1, l2⟩ := le32_wf h.wf p
  have l : (0 ≤ le16 zs (vtab zs p) ∧ le16 zs (vtab zs p) ≤ 65535) ∧ 0 ≤ le16 zs (vtab zs p + 2) ∧ le16 zs (vtab zs p + 2) ≤ 65535 := ⟨le16_wf h.wf _, le16_wf h.wf _⟩
  have hgood : good zs p ↔ (4 ≤ le16 zs (vtab zs p) ∧ le16 zs (vtab zs p) % 2 = 0 ∧ 4 ≤ le16 zs (vtab zs p + 2) ∧ le16 zs (vtab zs p) ≤ n - vtab zs p ∧ le16 zs (vtab zs p + 2) ≤ n - p) := by
    unfold good sound
    rw [hl]
    constructor
    · exact fun k => ⟨k.2.2.2.2.1, k.2.2.2.2.2.1, k.2.2.2.2.2.2.1, k.2.2.2.2.2.2.2.1, k.2.2.2.2.2.2.2.2⟩
    · exact fun k => ⟨h0, h1, v0, v1, k.1, k.2.1, k.2.2.1, k.2.2.2.1, k.2.2.2.2⟩
  have hsl : slots zs p = (le16 zs (vtab zs p) - 4) / 2 := rfl
  rw [hsl] at hpos
  generalize le16 zs (vtab zs p) = vs at *
  generalize le16 zs (vtab zs p + 2) = ts at *
  have ht : vs.tmod 2 = vs % 2 := Int.tmod_eq_emod_of_nonneg l.1.1
  clear hsl hg h
  by_cases hx : 2147483648 ≤ le32 zs p
  · have e1 : vtab zs p = p - (le32 zs p - 4294967296) := by simp [vtab, back, hx]
    rw [e1] at v0 v1 C2 C3 hpos hgood
    clear e1
    generalize le32 zs p = b at *
    by_cases q1 : vs < 4
    · rw [hneg (by rw [hgood]; omega)]
      exact layout_ap n c p b vs ts ao w hs h0 h1 (by omega) l1 l2 l hx (by omega) (by omega) q1 C1 C2 C3
    by_cases q2 : vs.tmod 2 = 1
    · rw [hneg (by rw [hgood]; omega)]
      exact layout_bp n c p b vs ts ao w hs h0 h1 (by omega) l1 l2 l hx (by omega) (by omega) q1 q2 C1 C2 C3
    have q2' : vs.tmod 2 = 0 := by omega
    by_cases q3 : ts < 4
    · rw [hneg (by rw [hgood]; omega)]
      exact layout_cp n c p b vs ts ao w hs h0 h1 (by omega) l1 l2 l hx (by omega) (by omega) q1 q2' q3 C1 C2 C3
    by_cases q4 : (n : Int) - (p - (b - 4294967296)) < vs
    · rw [hneg (by rw [hgood]; omega)]
      exact layout_dp n c p b vs ts ao w hs h0 h1 (by omega) l1 l2 l hx (by omega) (by omega) q1 q2' q3 q4 C1 C2 C3
    by_cases q5 : (n : Int) - p < ts
    · rw [hneg (by rw [hgood]; omega)]
      exact layout_ep n c p b vs ts ao w hs h0 h1 (by omega) l1 l2 l hx (by omega) (by omega) q1 q2' q3 q4 q5 C1 C2 C3
    rw [hpos (by rw [hgood]; omega)]
    exact layout_fp n c p b vs ts ao w hs h0 h1 (by omega) l1 l2 l hx (by omega) (by omega) q1 q2' q3 q4 q5 C1 C2 C3
  · have e1 : vtab zs p = p - le32 zs p := by simp [vtab, back, hx]
    rw [e1] at v0 v1 C2 C3 hpos hgood
    clear e1
    generalize le32 zs p = b at *
    by_cases q1 : vs < 4
    · rw [hneg (by rw [hgood]; omega)]
      exact layout_am n c p b vs ts ao w hs h0 h1 (by omega) l1 l2 l hx (by omega) (by omega) q1 C1 C2 C3
    by_cases q2 : vs.tmod 2 = 1
    · rw [hneg (by rw [hgood]; omega)]
      exact layout_bm n c p b vs ts ao w hs h0 h1 (by omega) l1 l2 l hx (by omega) (by omega) q1 q2 C1 C2 C3
    have q2' : vs.tmod 2 = 0 := by omega
    by_cases q3 : ts < 4
    · rw [hneg (by rw [hgood]; omega)]
      exact layout_cm n c p b vs ts ao w hs h0 h1 (by omega) l1 l2 l hx (by omega) (by omega) q1 q2' q3 C1 C2 C3
    by_cases q4 : (n : Int) - (p - b) < vs
    · rw [hneg (by rw [hgood]; omega)]
      exact layout_dm n c p b vs ts ao w hs h0 h1 (by omega) l1 l2 l hx (by omega) (by omega) q1 q2' q3 q4 C1 C2 C3
    by_cases q5 : (n : Int) - p < ts
    · rw [hneg (by rw [hgood]; omega)]
      exact layout_em n c p b vs ts ao w hs h0 h1 (by omega) l1 l2 l hx (by omega) (by omega) q1 q2' q3 q4 q5 C1 C2 C3
    rw [hpos (by rw [hgood]; omega)]
    exact layout_fm n c p b vs ts ao w hs h0 h1 (by omega) l1 l2 l hx (by omega) (by omega) q1 q2' q3 q4 q5 C1 C2 C3
end Go.Proofs.Qxb6617024aFmt

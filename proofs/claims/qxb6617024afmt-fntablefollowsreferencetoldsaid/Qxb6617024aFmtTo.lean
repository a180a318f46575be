import Derived.Test.Qxb6617024aFmtTn
namespace Go.Proofs.Qxb6617024aFmt
open Go.RowKit Go.Extern.Stop Go.Stop Go.Extern

theorem good_iff {zs : List Int} {n : Nat} {p : Int} (hl : zs.length = n) : good zs p ↔ (0 ≤ p ∧ p ≤ n - 4 ∧ 0 ≤ vtab zs p ∧ vtab zs p ≤ n - 4 ∧ 4 ≤ le16 zs (vtab zs p) ∧ le16 zs (vtab zs p) % 2 = 0 ∧ 4 ≤ le16 zs (vtab zs p + 2) ∧ le16 zs (vtab zs p) ≤ n - vtab zs p ∧ le16 zs (vtab zs p + 2) ≤ n - p) := by
  unfold good sound
  rw [hl]
  rfl

/-- A sound table is found. -/
theorem table_good (bb n c : Nat) (ao : Option Addr) (zs : List Int) (p : Int) (w : World) (h : Buf w bb ao n c zs) (he : ErrIs w bb false) (hg : good zs p) :
    Calls Tryf.prog 22 #[.pointer (some ⟨bb, 0, none⟩), .int .i64 p] w fun e w' => e = .returned (isTable bb p (vtab zs p) (slots zs p)) ∧ Kept bb w w' ∧ ErrIs w' bb false := by
  obtain ⟨h0, h1, v0, v1, g1, g2, g3, g4, g5⟩ := (good_iff h.len).1 hg
  have C2 := fun (w1 : World) (hk : Kept bb w w1) => u32_walk bb n c p ao zs w1 (h.kept hk) h0 (by omega)
  have C3 := fun (w1 : World) (hk : Kept bb w w1) => u16_walk bb n c (vtab zs p) ao zs w1 (h.kept hk) v0 (by omega)
  have C4 := fun (w1 : World) (hk : Kept bb w w1) => u16_walk bb n c (vtab zs p + 2) ao zs w1 (h.kept hk) (by omega) (by omega)
  obtain ⟨l1, l2⟩ := le32_wf h.wf p
  have l : (0 ≤ le16 zs (vtab zs p) ∧ le16 zs (vtab zs p) ≤ 65535) ∧ 0 ≤ le16 zs (vtab zs p + 2) ∧ le16 zs (vtab zs p + 2) ≤ 65535 := ⟨le16_wf h.wf _, le16_wf h.wf _⟩
  have hsl : slots zs p = (le16 zs (vtab zs p) - 4) / 2 := rfl
  rw [hsl]
  clear hsl hg
  generalize le16 zs (vtab zs p) = vs at *
  generalize le16 zs (vtab zs p + 2) = ts at *
  have ht : vs.tmod 2 = vs % 2 := Int.tmod_eq_emod_of_nonneg l.1.1
  by_cases hx : 2147483648 ≤ le32 zs p
  · have e1 : vtab zs p = p - (le32 zs p - 4294967296) := by simp [vtab, back, hx]
    rw [e1] at v0 v1 C3 C4 g4 ⊢
    clear e1
    generalize le32 zs p = b at *
    exact table_ip bb n c ao zs p b vs ts w h he h0 h1 l1 l2 l hx (by omega) (by omega) (by omega) (by omega) (by omega) (by omega) (by omega) C2 C3 C4
  · have e1 : vtab zs p = p - le32 zs p := by simp [vtab, back, hx]
    rw [e1] at v0 v1 C3 C4 g4 ⊢
    clear e1
    generalize le32 zs p = b at *
    exact table_im bb n c ao zs p b vs ts w h he h0 h1 l1 l2 l hx (by omega) (by omega) (by omega) (by omega) (by omega) (by omega) (by omega) C2 C3 C4

/-- A table that is not sound is refused. -/
theorem table_bad (bb n c : Nat) (ao : Option Addr) (zs : List Int) (p : Int) (w : World) (h : Buf w bb ao n c zs) (he : ErrIs w bb false) (h0 : 0 ≤ p) (hg : ¬ good zs p) :
    Calls Tryf.prog 22 #[.pointer (some ⟨bb, 0, none⟩), .int .i64 p] w fun e w' => e = .returned noTable ∧ Kept bb w w' ∧ ErrIs w' bb true := by
  rw [good_iff h.len] at hg
  by_cases h1 : (n : Int) - 4 < p
  · exact table_out bb n c ao zs p w h he h0 h1
  have h1' : p ≤ (n : Int) - 4 := by omega
  have C2 := fun (w1 : World) (hk : Kept bb w w1) => u32_walk bb n c p ao zs w1 (h.kept hk) h0 (by omega)
  have C3 := fun (v0 : 0 ≤ vtab zs p) (v1 : vtab zs p ≤ (n : Int) - 4) (w1 : World) (hk : Kept bb w w1) => u16_walk bb n c (vtab zs p) ao zs w1 (h.kept hk) v0 (by omega)
  have C4 := fun (v0 : 0 ≤ vtab zs p) (v1 : vtab zs p ≤ (n : Int) - 4) (w1 : World) (hk : Kept bb w w1) => u16_walk bb n c (vtab zs p + 2) ao zs w1 (h.kept hk) (by omega) (by omega)
  obtain ⟨l1, l2⟩ := le32_wf h.wf p
  have l : (0 ≤ le16 zs (vtab zs p) ∧ le16 zs (vtab zs p) ≤ 65535) ∧ 0 ≤ le16 zs (vtab zs p + 2) ∧ le16 zs (vtab zs p + 2) ≤ 65535 := ⟨le16_wf h.wf _, le16_wf h.wf _⟩
  have hs := h.small
  generalize le16 zs (vtab zs p) = vs at *
  generalize le16 zs (vtab zs p + 2) = ts at *
  have ht : vs.tmod 2 = vs % 2 := Int.tmod_eq_emod_of_nonneg l.1.1
  by_cases hx : 2147483648 ≤ le32 zs p
  · have e1 : vtab zs p = p - (le32 zs p - 4294967296) := by simp [vtab, back, hx]
    rw [e1] at C3 C4 hg
    clear e1
    generalize le32 zs p = b at *
    by_cases v2 : (n : Int) < p - (b - 4294967296)
    · exact table_bp bb n c ao zs p b vs ts w h he h0 h1' l1 l2 l hx (by omega) v2 C2
    by_cases v3 : (n : Int) - 4 < p - (b - 4294967296)
    · exact table_cp bb n c ao zs p b vs ts w h he h0 h1' l1 l2 l hx (by omega) v2 v3 C2
    replace C3 := C3 (by omega) (by omega)
    replace C4 := C4 (by omega) (by omega)
    by_cases q1 : vs < 4
    · exact table_dp bb n c ao zs p b vs ts w h he h0 h1' l1 l2 l hx (by omega) v3 q1 C2 C3 C4
    by_cases q2 : vs.tmod 2 = 1
    · exact table_ep bb n c ao zs p b vs ts w h he h0 h1' l1 l2 l hx (by omega) v3 q1 q2 C2 C3 C4
    have q2' : vs.tmod 2 = 0 := by omega
    by_cases q3 : ts < 4
    · exact table_fp bb n c ao zs p b vs ts w h he h0 h1' l1 l2 l hx (by omega) v3 q1 q2' q3 C2 C3 C4
    by_cases q4 : (n : Int) - (p - (b - 4294967296)) < vs
    · exact table_gp bb n c ao zs p b vs ts w h he h0 h1' l1 l2 l hx (by omega) v3 q1 q2' q3 q4 C2 C3 C4
    exact table_hp bb n c ao zs p b vs ts w h he h0 h1' l1 l2 l hx (by omega) v3 q1 q2' q3 q4 (by omega) C2 C3 C4
  · have e1 : vtab zs p = p - le32 zs p := by simp [vtab, back, hx]
    rw [e1] at C3 C4 hg
    clear e1
    generalize le32 zs p = b at *
    by_cases v2 : p - b < 0
    · exact table_am bb n c ao zs p b vs ts w h he h0 h1' l1 l2 l hx v2 C2
    replace C3 := C3 (by omega) (by omega)
    replace C4 := C4 (by omega) (by omega)
    by_cases q1 : vs < 4
    · exact table_dm bb n c ao zs p b vs ts w h he h0 h1' l1 l2 l hx v2 (by omega) q1 C2 C3 C4
    by_cases q2 : vs.tmod 2 = 1
    · exact table_em bb n c ao zs p b vs ts w h he h0 h1' l1 l2 l hx v2 (by omega) q1 q2 C2 C3 C4
    have q2' : vs.tmod 2 = 0 := by omega
    by_cases q3 : ts < 4
    · exact table_fm bb n c ao zs p b vs ts w h he h0 h1' l1 l2 l hx v2 (by omega) q1 q2' q3 C2 C3 C4
    by_cases q4 : (n : Int) - (p - b) < vs
    · exact table_gm bb n c ao zs p b vs ts w h he h0 h1' l1 l2 l hx v2 (by omega) q1 q2' q3 q4 C2 C3 C4
    exact table_hm bb n c ao zs p b vs ts w h he h0 h1' l1 l2 l hx v2 (by omega) q1 q2' q3 q4 (by omega) C2 C3 C4
end Go.Proofs.Qxb6617024aFmt

import Derived.Test.Qxb6617024aFmtTs
namespace Go.Proofs.Qxb6617024aFmt
open Go.RowKit Go.Extern.Stop Go.Stop Go.Extern

/-- What the vtable says of slot s. -/
def offAt (zs : List Int) (p s : Int) : Int := le16 zs (vtab zs p + 4 + 2 * s)
/-- Where the reference in slot s points. -/
def target (zs : List Int) (p s : Int) : Int := p + offAt zs p s + le32 zs (p + offAt zs p s)
def Absent (zs : List Int) (p s : Int) : Prop := ¬ good zs p ∨ slots zs p ≤ s ∨ offAt zs p s = 0
def Found (zs : List Int) (p s : Int) : Prop := good zs p ∧ s < slots zs p ∧ 4 ≤ offAt zs p s ∧ offAt zs p s ≤ zs.length - p - 4 ∧ le32 zs (p + offAt zs p s) < zs.length - (p + offAt zs p s) ∧ good zs (target zs p s)

theorem good_bounds {zs : List Int} {p : Int} (hw : ∀ z ∈ zs, 0 ≤ z ∧ z ≤ 255) (h : good zs p) : 0 ≤ p ∧ p ≤ zs.length - 4 ∧ 0 ≤ vtab zs p ∧ vtab zs p ≤ zs.length ∧ slots zs p ≤ 32768 ∧ ∀ s, s < slots zs p → vtab zs p + 4 + 2 * s + 2 ≤ zs.length := by
  obtain ⟨h1, h2, h3, h4, h5, h6, h7, h8, h9⟩ := h
  have h3' : 0 ≤ vtab zs p := h3
  have h4' : vtab zs p ≤ zs.length - 4 := h4
  have h8' : le16 zs (vtab zs p) ≤ zs.length - vtab zs p := h8
  have hb := le16_wf hw (vtab zs p)
  have e : slots zs p = (le16 zs (vtab zs p) - 4) / 2 := rfl
  exact ⟨h1, h2, h3', by omega, by omega, fun s hs => by omega⟩

theorem lay_good {n c : Nat} {p : Int} {ao : Option Addr} {zs : List Int} {w : World} (h : Bytes w ao n zs) (hg : good zs p) :
    Calls Tryf.prog 12 #[.slice ao n c, .int .i64 p] w fun e w' => e = .returned (.tuple #[.bool true, .int .i64 (vtab zs p), .int .i64 (slots zs p)]) ∧ Below w.heap.size w w' :=
  layout_walk n c p ao zs w h true ⟨fun _ => hg, fun _ => rfl⟩
theorem lay_bad {n c : Nat} {p : Int} {ao : Option Addr} {zs : List Int} {w : World} (h : Bytes w ao n zs) (hg : ¬ good zs p) :
    Calls Tryf.prog 12 #[.slice ao n c, .int .i64 p] w fun e w' => e = .returned (.tuple #[.bool false, .int .i64 0, .int .i64 0]) ∧ Below w.heap.size w w' :=
  layout_walk n c p ao zs w h false ⟨fun k => absurd k (by decide), fun k => absurd k hg⟩

theorem child_absent (n c : Nat) (p s : Int) (ao : Option Addr) (zs : List Int) (w : World) (h : Bytes w ao n zs) (h0 : 0 ≤ s) (ha : Absent zs p s) :
    Calls Tryf.prog 16 #[.slice ao n c, .int .i64 p, .int .i64 s] w fun e w' => e = .returned (.tuple #[.bool false, .int .i64 0, .int .i64 0, .int .i64 0, .bool false]) ∧ Below w.heap.size w w' := by
  have hs := h.small
  have hl := h.len
  by_cases hg : good zs p
  · obtain ⟨b1, b2, b3, b4, b5, b6⟩ := good_bounds h.wf hg
    by_cases hx : slots zs p ≤ s
    · exact child_b n c p s _ _ ao w h0 hx (lay_good h hg)
    · have ho : offAt zs p s = 0 := by
        rcases ha with k | k | k
        · exact absurd hg k
        · exact absurd k hx
        · exact k
      have := b6 s (by omega)
      refine child_c n c p s _ _ ao w hs h0 ⟨b1, by omega⟩ b3 (by omega) (by omega) b5 (lay_good h hg) (fun w1 hb => ?_)
      have := zzle16_walk n c (vtab zs p + 4 + 2 * s) ao zs w1 (h.below hb) (by omega) (by omega)
      rw [show le16 zs (vtab zs p + 4 + 2 * s) = 0 from ho] at this
      exact this
  · exact child_a n c p s ao w (lay_bad h hg)

theorem child_found (n c : Nat) (p s : Int) (ao : Option Addr) (zs : List Int) (w : World) (h : Bytes w ao n zs) (h0 : 0 ≤ s) (hf : Found zs p s) :
    Calls Tryf.prog 16 #[.slice ao n c, .int .i64 p, .int .i64 s] w fun e w' => e = .returned (.tuple #[.bool true, .int .i64 (target zs p s), .int .i64 (vtab zs (target zs p s)), .int .i64 (slots zs (target zs p s)), .bool false]) ∧ Below w.heap.size w w' := by
  have hs := h.small
  have hl := h.len
  obtain ⟨hg, k1, k2, k3, k4, k5⟩ := hf
  obtain ⟨b1, b2, b3, b4, b5, b6⟩ := good_bounds h.wf hg
  have := b6 s k1
  have ho := le16_wf h.wf (vtab zs p + 4 + 2 * s)
  have hr := le32_wf h.wf (p + offAt zs p s)
  exact child_h n c p s _ _ (offAt zs p s) (le32 zs (p + offAt zs p s)) _ _ ao w hs h0 ⟨b1, by omega⟩ b3 (by omega) k1 b5 k2 (by omega) ho.2 hr.1 hr.2 (by omega) (lay_good h hg)
    (fun w1 hb => zzle16_walk n c (vtab zs p + 4 + 2 * s) ao zs w1 (h.below hb) (by omega) (by omega)) (fun w1 hb => zzle32_walk n c (p + offAt zs p s) ao zs w1 (h.below hb) (by omega) (by omega))
    (fun w1 hb => lay_good (h.below hb) k5)

theorem child_refused (n c : Nat) (p s : Int) (ao : Option Addr) (zs : List Int) (w : World) (h : Bytes w ao n zs) (h0 : 0 ≤ s) (ha : ¬ Absent zs p s) (hf : ¬ Found zs p s) :
    Calls Tryf.prog 16 #[.slice ao n c, .int .i64 p, .int .i64 s] w fun e w' => e = .returned (.tuple #[.bool false, .int .i64 0, .int .i64 0, .int .i64 0, .bool true]) ∧ Below w.heap.size w w' := by
  have hs := h.small
  have hl := h.len
  have hg : good zs p := Classical.byContradiction fun k => ha (.inl k)
  have k1 : s < slots zs p := by
    have : ¬ slots zs p ≤ s := fun k => ha (.inr (.inl k))
    omega
  have k0 : ¬ offAt zs p s = 0 := fun k => ha (.inr (.inr k))
  obtain ⟨b1, b2, b3, b4, b5, b6⟩ := good_bounds h.wf hg
  have := b6 s k1
  have ho := le16_wf h.wf (vtab zs p + 4 + 2 * s)
  rw [show le16 zs (vtab zs p + 4 + 2 * s) = offAt zs p s from rfl] at ho
  have hr := le32_wf h.wf (p + offAt zs p s)
  have C2 := fun (w1 : World) (hb : Below w.heap.size w w1) => zzle16_walk n c (vtab zs p + 4 + 2 * s) ao zs w1 (h.below hb) (by omega) (by omega)
  by_cases k2 : offAt zs p s < 4
  · exact child_d n c p s _ _ (offAt zs p s) ao w hs h0 ⟨b1, by omega⟩ b3 (by omega) k1 b5 (by omega) k2 (lay_good h hg) C2
  by_cases k3 : (n : Int) - p - 4 < offAt zs p s
  · exact child_e n c p s _ _ (offAt zs p s) ao w hs h0 ⟨b1, by omega⟩ b3 (by omega) k1 b5 (by omega) k3 ho.2 (lay_good h hg) C2
  have C3 := fun (w1 : World) (hb : Below w.heap.size w w1) => zzle32_walk n c (p + offAt zs p s) ao zs w1 (h.below hb) (by omega) (by omega)
  by_cases k4 : (n : Int) - (p + offAt zs p s) ≤ le32 zs (p + offAt zs p s)
  · exact child_f n c p s _ _ (offAt zs p s) (le32 zs (p + offAt zs p s)) ao w hs h0 ⟨b1, by omega⟩ b3 (by omega) k1 b5 (by omega) (by omega) ho.2 hr.1 hr.2 k4 (lay_good h hg) C2 C3
  have k5 : ¬ good zs (target zs p s) := fun k => hf ⟨hg, k1, by omega, by omega, by omega, k⟩
  exact child_g n c p s _ _ (offAt zs p s) (le32 zs (p + offAt zs p s)) ao w hs h0 ⟨b1, by omega⟩ b3 (by omega) k1 b5 (by omega) (by omega) ho.2 hr.1 hr.2 (by omega) (lay_good h hg) C2 C3 (fun w1 hb => lay_bad (h.below hb) k5)
end Go.Proofs.Qxb6617024aFmt

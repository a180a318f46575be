import Derived.Test.Qxb6617024aFmtUc
import Derived.ProofKit
import Derived.OpenShut
import Derived.ChangeSlices
import Derived.ChangeSame
import Derived.ChangeMaps5
import Derived.JoinedOf
import Derived.Carry
import Derived.Stop.JoinedAt
import Derived.Stop.Texts
import Derived.Stop.JoinedTold
import Derived.SizedLaws
namespace Go.Proofs.Qxb6617024aFmt
open Go.ChangeShapes Go.WideShapes Go.ChangeAt Go.RowKit Go.Kit
open Go.Extern.Stop Go.Stop Go.Extern

theorem own : ownKnob Tryf.prog.godebug = none := by kernel_rfl
theorem laidOut : laidOutB Tryf.pinned.checked.prog = true := by kernel_rfl
theorem cells5 : Tryf.prog.cellsOf 5 = 1 := by kernel_rfl

/-- A slice of bytes as it was handed in, of whatever length. -/
structure Handed (w : World) (ao : Option Addr) (n c : Nat) (zs : List Int) : Prop where
  len : zs.length = n
  nil : ao = none → n = 0 ∧ c = 0
  row : 0 < n → ∃ g o, ao = some ⟨g, o, none⟩ ∧ ∀ (j : Nat) z, zs[j]? = some z → w.cell? ⟨g, o + j, none⟩ = some (.int .u8 z)
  wf : ∀ z ∈ zs, 0 ≤ z ∧ z ≤ 255

theorem bytes_of {H : Type} {enc : TypeId × Value → H} {W : World} {a0 : Option Addr} {len cap : Nat} {x : DataW H × List MemPlace} {fuel : Nat}
    (hf : DataW.trod enc Tryf.prog W 0 (fun _ => true) true fuel 22 (Value.slice a0 len cap).cells.toList = some x) : ∃ zs, Handed W a0 len cap zs := by
  rcases open_ints Tryf.underlying22 Tryf.underlying5 cells5 hf with ⟨hcs, _⟩ | ⟨a, len', cap', zs, hcs, _, hl, _, hz, _, hcell, hwz⟩
  · simp [Value.cells] at hcs
    obtain ⟨rfl, rfl, rfl⟩ := hcs
    exact ⟨[], rfl, fun _ => ⟨rfl, rfl⟩, fun h => absurd h (by omega), fun z hz => by cases hz⟩
  · simp [Value.cells] at hcs
    obtain ⟨rfl, rfl, rfl⟩ := hcs
    simp only [if_true] at hz
    obtain ⟨b, off, spot⟩ := a
    refine ⟨zs.take len, by rw [List.length_take]; omega, fun h => (by cases h), fun h0 => ?_, fun z hz' => ?_⟩
    · have hspot : spot = none := by simpa [Addr.add] using World.cell?_spot (hcell 0 (by omega))
      subst hspot
      refine ⟨b, off, rfl, fun j z hj => ?_⟩
      have hjl : j < len := by
        have := (List.getElem?_eq_some_iff.1 hj).1
        rw [List.length_take] at this
        omega
      have := hcell j (by omega)
      rw [WideShapes.add_plain] at this
      rw [this]
      rw [List.getElem?_take_of_lt hjl] at hj
      simp [List.getD, hj]
    · have := hwz z (List.mem_of_mem_take hz')
      simp [Lit.wf, IntKind.min, IntKind.max, IntKind.signed, IntKind.bits] at this
      omega

/-- Every slice of a small length is copied, and the copy is ready. -/
theorem clone_any {w : World} {ao : Option Addr} {n c : Nat} {zs : List Int} (h : Handed w ao n c zs) (hn : n ≤ 1048576) :
    ∃ co c2, Calls Tryf.prog 8 #[.slice ao n c] w fun e w' => e = .returned (.slice co n c2) ∧ Ready w co n c2 zs w' := by
  obtain ⟨hl, hnil, hrow, hwf⟩ := h
  cases ao with
  | none =>
    obtain ⟨rfl, rfl⟩ := hnil rfl
    obtain rfl : zs = [] := List.length_eq_zero_iff.1 hl
    exact ⟨none, 0, (clone_nil w).mono fun e w' ⟨he, hw⟩ => ⟨he, by subst hw; exact ready_nil _⟩⟩
  | some a =>
    refine ⟨some ⟨w.heap.size, 0, none⟩, n, ?_⟩
    by_cases h0 : 0 < n
    · obtain ⟨g, o, e, hr⟩ := hrow h0
      cases e
      exact (clone_some g o n c zs w hl hn hr).mono fun e w' ⟨he, hf⟩ => ⟨he, ready_fill hf hl hn hwf⟩
    · obtain rfl : zs = [] := List.length_eq_zero_iff.1 (by omega)
      exact (clone_zero a n c w (by omega)).mono fun e w' ⟨he, hf⟩ => ⟨he, ready_fill hf hl hn hwf⟩

theorem law6_any {w : World} {ao : Option Addr} {n c : Nat} {zs : List Int} (h : Handed w ao n c zs) (p s t : Int) :
    Calls Tryf.prog 6 #[.slice ao n c, .int .i64 p, .int .i64 s, .int .i64 t] w fun e w' => e = .returned (.bool true) ∧ Below w.heap.size w w' := by
  by_cases hn : n ≤ 1048576
  · by_cases hs : 0 ≤ s
    · by_cases ht : 0 ≤ t
      · obtain ⟨co, c2, K8⟩ := clone_any h hn
        exact law6_ready ao co n c c2 p s t zs w ⟨h.len, hn, h.row, h.wf⟩ hs ht K8
      · exact law6_t ao n c p s t w hn hs (by omega)
    · exact law6_s ao n c p s t w hn (by omega)
  · exact law6_big ao n c p s t w (by omega)
end Go.Proofs.Qxb6617024aFmt

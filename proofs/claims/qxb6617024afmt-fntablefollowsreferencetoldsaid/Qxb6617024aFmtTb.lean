import Derived.Test.Qxb6617024aFmtTa
namespace Go.Proofs.Qxb6617024aFmt
open Go.RowKit Go.Extern.Stop Go.Stop Go.Extern

set_option maxHeartbeats 800000 in
/-- fmt.Errorf at plain operands, no '%w' among the verbs: an error comes back. -/
theorem errorf_any (s : ByteArray) (b n c : Nat) (ps : List (Nat × UInt8 × Bool)) (w : World) (hn : ¬ n = 0)
    (hp : ∀ w, (FmtDoors.printed s n).run Tryf.prog w = .ok ps w) (h119 : ps.filter (fun p => p.2.1 == 119) = [])
    (h : ∀ i verb sharp, (i, verb, sharp) ∈ ps → sharp = false ∧ i < n ∧ ∃ v, w.cell? ⟨b, i, none⟩ = some v ∧ Plain verb v) :
    Calls Tryf.prog 32 #[.string s, .slice (some ⟨b, 0, none⟩) n c] w fun e w' => e = .returned (.iface 63 (.pointer (some ⟨w.heap.size, 0, none⟩))) ∧ Below w.heap.size w w' := by
  obtain ⟨W, hW, hb, _⟩ := turns_ok b n c s w ps [] h
  have HB : Hid (Below w.heap.size w W) := hb
  have g1 := call34
  have g2 := guard_ok
  clear h hb
  go_enter Tryf.func32, Tryf.ntmps32
  go_wp2
  apply rows_value nextTurns
  case hr => rw [FmtCalls.run_begun_save]; exact hW
  case h =>
    clear hW
    go_wp2
    go_ret
    exact ⟨rfl, HB.out⟩

end Go.Proofs.Qxb6617024aFmt

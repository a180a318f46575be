/-
  DERIVED. GIVEN WITH THE SEED: THE CARDS: each row of Qxb6617024aFmtRows.lean that lists a variable, with what it lists TIED to the program's text (the seventh form; the later family's looks); each row that meets fmt, with fmt's text TOLD by the authors' own Lean function (tested against real Go, not proved from fmt's source: count such statements apart). THE CARD IS WHAT COUNTS. Prove the row's statement (the work); the ties are given (Qxb6617024aFmtTie.lean); close each card by the builder's one call (the guide's Derived/Test/ToyasCard.lean, 'card_holds'). Laid BY PROGRAM, IN A SANDBOX (cutbox-door.mjs). By AI agents, Wed Nov 11 2026. No macro, syntax, notation, axiom, sorry.
-/
import Derived.Test.Qxb6617024aFmtRows
import GoSem.ClaimSeven
namespace Go.Proofs.Qxb6617024aFmt
namespace Rows

/-- THE TOLD CARD OF 'zzlaws_internal_flatbuf_b1.FnPresentExactlyForSoundLayout'. -/
def fnPresentExactlyForSoundLayoutCard : Claim7 := { stood := { row := fnPresentExactlyForSoundLayoutRow, standIns := [], harness := (true, "aab16e945d161fb336a94a700e09b000076133dfe6dee13cef47a89ecedad53b"), looks := false }, told := true, goes := false }
def FnPresentExactlyForSoundLayoutToldSaid : Prop := Claim7.holds Tryf.pinned (.plain (OpenSpec.ofChange fnPresentExactlyForSoundLayoutSpec)) fnPresentExactlyForSoundLayoutCard
/-- ITS FALSE NEIGHBOUR. Refute it at one input. -/
def FnPresentExactlyForSoundLayoutToldWrongFalsely : Prop := Claim7.holds Tryf.pinned (.plain (OpenSpec.ofChange fnPresentExactlyForSoundLayoutWrong)) fnPresentExactlyForSoundLayoutCard

/-- THE TOLD CARD OF 'zzlaws_internal_flatbuf_b1.FnPresentRefusedTablePoisonsBuffer'. -/
def fnPresentRefusedTablePoisonsBufferCard : Claim7 := { stood := { row := fnPresentRefusedTablePoisonsBufferRow, standIns := [], harness := (true, "aab16e945d161fb336a94a700e09b000076133dfe6dee13cef47a89ecedad53b"), looks := false }, told := true, goes := false }
def FnPresentRefusedTablePoisonsBufferToldSaid : Prop := Claim7.holds Tryf.pinned (.plain (OpenSpec.ofChange fnPresentRefusedTablePoisonsBufferSpec)) fnPresentRefusedTablePoisonsBufferCard
/-- ITS FALSE NEIGHBOUR. Refute it at one input. -/
def FnPresentRefusedTablePoisonsBufferToldWrongFalsely : Prop := Claim7.holds Tryf.pinned (.plain (OpenSpec.ofChange fnPresentRefusedTablePoisonsBufferWrong)) fnPresentRefusedTablePoisonsBufferCard

/-- THE TOLD CARD OF 'zzlaws_internal_flatbuf_b1.FnTableFollowsReference'. -/
def fnTableFollowsReferenceCard : Claim7 := { stood := { row := fnTableFollowsReferenceRow, standIns := [], harness := (true, "aab16e945d161fb336a94a700e09b000076133dfe6dee13cef47a89ecedad53b"), looks := false }, told := true, goes := false }
def FnTableFollowsReferenceToldSaid : Prop := Claim7.holds Tryf.pinned (.plain (OpenSpec.ofChange fnTableFollowsReferenceSpec)) fnTableFollowsReferenceCard
/-- ITS FALSE NEIGHBOUR. Refute it at one input. -/
def FnTableFollowsReferenceToldWrongFalsely : Prop := Claim7.holds Tryf.pinned (.plain (OpenSpec.ofChange fnTableFollowsReferenceWrong)) fnTableFollowsReferenceCard

/-- THE TOLD CARD OF 'zzlaws_internal_flatbuf_b1.FnTableRefusalIsSticky'. -/
def fnTableRefusalIsStickyCard : Claim7 := { stood := { row := fnTableRefusalIsStickyRow, standIns := [], harness := (true, "aab16e945d161fb336a94a700e09b000076133dfe6dee13cef47a89ecedad53b"), looks := false }, told := true, goes := false }
def FnTableRefusalIsStickyToldSaid : Prop := Claim7.holds Tryf.pinned (.plain (OpenSpec.ofChange fnTableRefusalIsStickySpec)) fnTableRefusalIsStickyCard
/-- ITS FALSE NEIGHBOUR. Refute it at one input. -/
def FnTableRefusalIsStickyToldWrongFalsely : Prop := Claim7.holds Tryf.pinned (.plain (OpenSpec.ofChange fnTableRefusalIsStickyWrong)) fnTableRefusalIsStickyCard
end Rows
end Go.Proofs.Qxb6617024aFmt

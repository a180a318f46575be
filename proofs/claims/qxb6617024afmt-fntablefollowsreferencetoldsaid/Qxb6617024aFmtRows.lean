/-
  No cell of these rows narrows 'for every input' (looked for: loops, veiled, ifaces, maps, wideKeys, modest, calm, conditions, laid).
  DERIVED. THE GIVEN ROWS OF THIS SEAT. 4 by the template 'for every input the law returns true; each argument reads behind the call as it read before'; 0 by the template 'total and deterministic' (their statements: Qxb6617024aFmtTotals.lean).
  GIVEN WITH THE SEED: the statements are not yours to turn. If you find one false, say at which input.
  Laid BY PROGRAM, IN A SANDBOX (cutbox-rows.mjs): the forced cells as the released guide's own fill.sh prints them over the translation 20d78bca2dda57e3… (all of the seat's roots in one cut). By AI agents, Wed Nov 11 2026. No macro, syntax, notation, axiom, sorry.
-/
import Derived.Test.Qxb6617024aFmtChecked
import GoSem.Claim
import GoSem.ClaimJoined
import GoSem.ClaimMapViews
import Derived.JoinedTies
import Derived.KernelRfl
namespace Go.Proofs.Qxb6617024aFmt
/- THE CELL 'sum', in the pinned program and in every row, IS THE sha256 OF THE DUMP (.gsa) THAT Qxb6617024aFmtProg.lean LOADS. Nothing in Lean hashes anything: it is a label: what it is worth is what the hold of that sum in a sandbox is worth. -/
noncomputable def Tryf.pinned : Pinned := { name := "qxb6617024afmt", sum := "20d78bca2dda57e354e38bed2186b06f9055848d55400309dceca7f86c5c7a06", checked := Tryf.checked }
namespace Rows
def none {H : Type} : Left H := { results := [], args := [] }

/-- 'zzlaws_internal_flatbuf_b1.FnPresentExactlyForSoundLayout': WHATEVER THE INPUT: true; the input reads as it did. -/
def fnPresentExactlyForSoundLayoutSpec : ChangeSpec := { name := "fnPresentExactlyForSoundLayout", fn := fun _ => fun
  | [d1, d2, d3] => { results := [.lit (.bool true)], args := [d1, d2, d3] }
  | _ => none }
def fnPresentExactlyForSoundLayoutRow : OpenClaim := { program := "qxb6617024afmt", sum := "20d78bca2dda57e354e38bed2186b06f9055848d55400309dceca7f86c5c7a06", func := "example.com/stria/stria/zzlaws_internal_flatbuf_b1.FnPresentExactlyForSoundLayout", spec := "fnPresentExactlyForSoundLayout", stops := ["fmt.errorf, its operands' methods called"], inPlace := ["fmt.errorf"], unfollowed := true, recurses := true, named := ["encoding/binary.LittleEndian"], apart := false }
/-- NO THEOREM (fmt's text is open here; it may be false): for the released tool's asking of the row's closed facts alone. THE STATEMENT IS 'FnPresentExactlyForSoundLayoutToldSaid' (Qxb6617024aFmtCards.lean). -/
def FnPresentExactlyForSoundLayoutFormAsk : Prop := fnPresentExactlyForSoundLayoutRow.holds Tryf.pinned (OpenSpec.ofChange fnPresentExactlyForSoundLayoutSpec)

/-- ITS FALSE NEIGHBOUR: 'it returns false'. Refute it at one input. -/
def fnPresentExactlyForSoundLayoutWrong : ChangeSpec := { name := "fnPresentExactlyForSoundLayout", fn := fun _ => fun
  | [d1, d2, d3] => { results := [.lit (.bool false)], args := [d1, d2, d3] }
  | _ => none }
def FnPresentExactlyForSoundLayoutWrongFormAsk : Prop := fnPresentExactlyForSoundLayoutRow.holds Tryf.pinned (OpenSpec.ofChange fnPresentExactlyForSoundLayoutWrong)

/-- 'zzlaws_internal_flatbuf_b1.FnPresentRefusedTablePoisonsBuffer': WHATEVER THE INPUT: true; the input reads as it did. -/
def fnPresentRefusedTablePoisonsBufferSpec : ChangeSpec := { name := "fnPresentRefusedTablePoisonsBuffer", fn := fun _ => fun
  | [d1, d2, d3] => { results := [.lit (.bool true)], args := [d1, d2, d3] }
  | _ => none }
def fnPresentRefusedTablePoisonsBufferRow : OpenClaim := { program := "qxb6617024afmt", sum := "20d78bca2dda57e354e38bed2186b06f9055848d55400309dceca7f86c5c7a06", func := "example.com/stria/stria/zzlaws_internal_flatbuf_b1.FnPresentRefusedTablePoisonsBuffer", spec := "fnPresentRefusedTablePoisonsBuffer", stops := ["fmt.errorf, its operands' methods called"], inPlace := ["fmt.errorf"], unfollowed := true, recurses := true, named := ["encoding/binary.LittleEndian"], apart := false }
/-- NO THEOREM (fmt's text is open here; it may be false): for the released tool's asking of the row's closed facts alone. THE STATEMENT IS 'FnPresentRefusedTablePoisonsBufferToldSaid' (Qxb6617024aFmtCards.lean). -/
def FnPresentRefusedTablePoisonsBufferFormAsk : Prop := fnPresentRefusedTablePoisonsBufferRow.holds Tryf.pinned (OpenSpec.ofChange fnPresentRefusedTablePoisonsBufferSpec)

/-- ITS FALSE NEIGHBOUR: 'it returns false'. Refute it at one input. -/
def fnPresentRefusedTablePoisonsBufferWrong : ChangeSpec := { name := "fnPresentRefusedTablePoisonsBuffer", fn := fun _ => fun
  | [d1, d2, d3] => { results := [.lit (.bool false)], args := [d1, d2, d3] }
  | _ => none }
def FnPresentRefusedTablePoisonsBufferWrongFormAsk : Prop := fnPresentRefusedTablePoisonsBufferRow.holds Tryf.pinned (OpenSpec.ofChange fnPresentRefusedTablePoisonsBufferWrong)

/-- 'zzlaws_internal_flatbuf_b1.FnTableFollowsReference': WHATEVER THE INPUT: true; the input reads as it did. -/
def fnTableFollowsReferenceSpec : ChangeSpec := { name := "fnTableFollowsReference", fn := fun _ => fun
  | [d1, d2, d3] => { results := [.lit (.bool true)], args := [d1, d2, d3] }
  | _ => none }
def fnTableFollowsReferenceRow : OpenClaim := { program := "qxb6617024afmt", sum := "20d78bca2dda57e354e38bed2186b06f9055848d55400309dceca7f86c5c7a06", func := "example.com/stria/stria/zzlaws_internal_flatbuf_b1.FnTableFollowsReference", spec := "fnTableFollowsReference", stops := ["fmt.errorf, its operands' methods called"], inPlace := ["fmt.errorf"], unfollowed := true, recurses := true, named := ["encoding/binary.LittleEndian"], apart := false }
/-- NO THEOREM (fmt's text is open here; it may be false): for the released tool's asking of the row's closed facts alone. THE STATEMENT IS 'FnTableFollowsReferenceToldSaid' (Qxb6617024aFmtCards.lean). -/
def FnTableFollowsReferenceFormAsk : Prop := fnTableFollowsReferenceRow.holds Tryf.pinned (OpenSpec.ofChange fnTableFollowsReferenceSpec)

/-- ITS FALSE NEIGHBOUR: 'it returns false'. Refute it at one input. -/
def fnTableFollowsReferenceWrong : ChangeSpec := { name := "fnTableFollowsReference", fn := fun _ => fun
  | [d1, d2, d3] => { results := [.lit (.bool false)], args := [d1, d2, d3] }
  | _ => none }
def FnTableFollowsReferenceWrongFormAsk : Prop := fnTableFollowsReferenceRow.holds Tryf.pinned (OpenSpec.ofChange fnTableFollowsReferenceWrong)

/-- 'zzlaws_internal_flatbuf_b1.FnTableRefusalIsSticky': WHATEVER THE INPUT: true; the input reads as it did. -/
def fnTableRefusalIsStickySpec : ChangeSpec := { name := "fnTableRefusalIsSticky", fn := fun _ => fun
  | [d1, d2, d3, d4] => { results := [.lit (.bool true)], args := [d1, d2, d3, d4] }
  | _ => none }
def fnTableRefusalIsStickyRow : OpenClaim := { program := "qxb6617024afmt", sum := "20d78bca2dda57e354e38bed2186b06f9055848d55400309dceca7f86c5c7a06", func := "example.com/stria/stria/zzlaws_internal_flatbuf_b1.FnTableRefusalIsSticky", spec := "fnTableRefusalIsSticky", stops := ["fmt.errorf, its operands' methods called"], inPlace := ["fmt.errorf"], unfollowed := true, recurses := true, named := ["encoding/binary.LittleEndian"], apart := false }
/-- NO THEOREM (fmt's text is open here; it may be false): for the released tool's asking of the row's closed facts alone. THE STATEMENT IS 'FnTableRefusalIsStickyToldSaid' (Qxb6617024aFmtCards.lean). -/
def FnTableRefusalIsStickyFormAsk : Prop := fnTableRefusalIsStickyRow.holds Tryf.pinned (OpenSpec.ofChange fnTableRefusalIsStickySpec)

/-- ITS FALSE NEIGHBOUR: 'it returns false'. Refute it at one input. -/
def fnTableRefusalIsStickyWrong : ChangeSpec := { name := "fnTableRefusalIsSticky", fn := fun _ => fun
  | [d1, d2, d3, d4] => { results := [.lit (.bool false)], args := [d1, d2, d3, d4] }
  | _ => none }
def FnTableRefusalIsStickyWrongFormAsk : Prop := fnTableRefusalIsStickyRow.holds Tryf.pinned (OpenSpec.ofChange fnTableRefusalIsStickyWrong)

end Rows
end Go.Proofs.Qxb6617024aFmt

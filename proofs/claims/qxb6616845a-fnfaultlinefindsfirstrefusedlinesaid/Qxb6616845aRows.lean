/-
  No cell of these rows narrows 'for every input' (looked for: loops, veiled, ifaces, maps, wideKeys, modest, calm, conditions, laid).
  DERIVED. THE GIVEN ROWS OF THIS SEAT. 2 by the template 'for every input the law returns true; each argument reads behind the call as it read before'; 0 by the template 'total and deterministic' (their statements: Qxb6616845aTotals.lean).
  GIVEN WITH THE SEED: the statements are not yours to turn. If you find one false, say at which input.
  Laid BY PROGRAM, IN A SANDBOX (cutbox-rows.mjs): the forced cells as the released guide's own fill.sh prints them over the translation 49227e2d9e905144… (all of the seat's roots in one cut). By AI agents, Wed Nov 11 2026. No macro, syntax, notation, axiom, sorry.
-/
import Derived.Test.Qxb6616845aChecked
import GoSem.Claim
import GoSem.ClaimJoined
import GoSem.ClaimMapViews
import Derived.JoinedTies
import Derived.KernelRfl
namespace Go.Proofs.Qxb6616845a
/- THE CELL 'sum', in the pinned program and in every row, IS THE sha256 OF THE DUMP (.gsa) THAT Qxb6616845aProg.lean LOADS. Nothing in Lean hashes anything: it is a label: what it is worth is what the hold of that sum in a sandbox is worth. -/
noncomputable def Try.pinned : Pinned := { name := "qxb6616845a", sum := "49227e2d9e905144140051503df3a5f949ce698c7d7f2765324bac6f1474362a", checked := Try.checked }
namespace Rows
def none {H : Type} : Left H := { results := [], args := [] }

/-- 'zzlaws_pkg_input_b1.FnFaultLineFindsFirstRefusedLine': WHATEVER THE INPUT: true; the input reads as it did. -/
def fnFaultLineFindsFirstRefusedLineSpec : ChangeSpec := { name := "fnFaultLineFindsFirstRefusedLine", fn := fun _ => fun
  | [d1, d2] => { results := [.lit (.bool true)], args := [d1, d2] }
  | _ => none }
def fnFaultLineFindsFirstRefusedLineRow : OpenClaim := { program := "qxb6616845a", sum := "49227e2d9e905144140051503df3a5f949ce698c7d7f2765324bac6f1474362a", func := "example.com/vestwright/vestwright/zzlaws_pkg_input_b1.FnFaultLineFindsFirstRefusedLine", spec := "fnFaultLineFindsFirstRefusedLine", unfollowed := true, recurses := true, apart := false }
def FnFaultLineFindsFirstRefusedLineSaid : Prop := fnFaultLineFindsFirstRefusedLineRow.holds Try.pinned (OpenSpec.ofChange fnFaultLineFindsFirstRefusedLineSpec)

/-- ITS FALSE NEIGHBOUR: 'it returns false'. Refute it at one input. -/
def fnFaultLineFindsFirstRefusedLineWrong : ChangeSpec := { name := "fnFaultLineFindsFirstRefusedLine", fn := fun _ => fun
  | [d1, d2] => { results := [.lit (.bool false)], args := [d1, d2] }
  | _ => none }
def FnFaultLineFindsFirstRefusedLineWrongFalsely : Prop := fnFaultLineFindsFirstRefusedLineRow.holds Try.pinned (OpenSpec.ofChange fnFaultLineFindsFirstRefusedLineWrong)

/-- 'zzlaws_pkg_input_b1.FnFaultLineAnswersARefusalBoundary': WHATEVER THE INPUT: true; the input reads as it did. -/
def fnFaultLineAnswersARefusalBoundarySpec : ChangeSpec := { name := "fnFaultLineAnswersARefusalBoundary", fn := fun _ => fun
  | [d1, d2] => { results := [.lit (.bool true)], args := [d1, d2] }
  | _ => none }
def fnFaultLineAnswersARefusalBoundaryRow : OpenClaim := { program := "qxb6616845a", sum := "49227e2d9e905144140051503df3a5f949ce698c7d7f2765324bac6f1474362a", func := "example.com/vestwright/vestwright/zzlaws_pkg_input_b1.FnFaultLineAnswersARefusalBoundary", spec := "fnFaultLineAnswersARefusalBoundary", unfollowed := true, recurses := true, apart := false }
def FnFaultLineAnswersARefusalBoundarySaid : Prop := fnFaultLineAnswersARefusalBoundaryRow.holds Try.pinned (OpenSpec.ofChange fnFaultLineAnswersARefusalBoundarySpec)

/-- ITS FALSE NEIGHBOUR: 'it returns false'. Refute it at one input. -/
def fnFaultLineAnswersARefusalBoundaryWrong : ChangeSpec := { name := "fnFaultLineAnswersARefusalBoundary", fn := fun _ => fun
  | [d1, d2] => { results := [.lit (.bool false)], args := [d1, d2] }
  | _ => none }
def FnFaultLineAnswersARefusalBoundaryWrongFalsely : Prop := fnFaultLineAnswersARefusalBoundaryRow.holds Try.pinned (OpenSpec.ofChange fnFaultLineAnswersARefusalBoundaryWrong)

end Rows
end Go.Proofs.Qxb6616845a

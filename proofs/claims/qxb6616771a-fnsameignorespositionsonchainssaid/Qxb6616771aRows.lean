/-
  No cell of these rows narrows 'for every input' (looked for: loops, veiled, ifaces, maps, wideKeys, modest, calm, conditions, laid).
  DERIVED. THE GIVEN ROWS OF THIS SEAT. 1 by the template 'for every input the law returns true; each argument reads behind the call as it read before'; 0 by the template 'total and deterministic' (their statements: Qxb6616771aTotals.lean).
  GIVEN WITH THE SEED: the statements are not yours to turn. If you find one false, say at which input.
  Laid BY PROGRAM, IN A SANDBOX (cutbox-rows.mjs): the forced cells as the released guide's own fill.sh prints them over the translation 09c3b76f33526fb2… (all of the seat's roots in one cut). By AI agents, Wed Nov 11 2026. No macro, syntax, notation, axiom, sorry.
-/
import Derived.Test.Qxb6616771aChecked
import GoSem.Claim
import GoSem.ClaimJoined
import GoSem.ClaimMapViews
import Derived.JoinedTies
import Derived.KernelRfl
namespace Go.Proofs.Qxb6616771a
/- THE CELL 'sum', in the pinned program and in every row, IS THE sha256 OF THE DUMP (.gsa) THAT Qxb6616771aProg.lean LOADS. Nothing in Lean hashes anything: it is a label: what it is worth is what the hold of that sum in a sandbox is worth. -/
noncomputable def Try.pinned : Pinned := { name := "qxb6616771a", sum := "09c3b76f33526fb28db5a0188d2475e8863d7a321b2054e3c70778b8463827d7", checked := Try.checked }
namespace Rows
def none {H : Type} : Left H := { results := [], args := [] }

/-- 'zzlaws_parser_b1.FnSameIgnoresPositionsOnChains': WHATEVER THE INPUT: true; the input reads as it did. -/
def fnSameIgnoresPositionsOnChainsSpec : ChangeSpec := { name := "fnSameIgnoresPositionsOnChains", fn := fun _ => fun
  | [d1, d2, d3, d4, d5] => { results := [.lit (.bool true)], args := [d1, d2, d3, d4, d5] }
  | _ => none }
def fnSameIgnoresPositionsOnChainsRow : OpenClaim := { program := "qxb6616771a", sum := "09c3b76f33526fb28db5a0188d2475e8863d7a321b2054e3c70778b8463827d7", func := "example.com/shardwright/shardwright/zzlaws_parser_b1.FnSameIgnoresPositionsOnChains", spec := "fnSameIgnoresPositionsOnChains", unfollowed := true, recurses := true, apart := false }
def FnSameIgnoresPositionsOnChainsSaid : Prop := fnSameIgnoresPositionsOnChainsRow.holds Try.pinned (OpenSpec.ofChange fnSameIgnoresPositionsOnChainsSpec)

/-- ITS FALSE NEIGHBOUR: 'it returns false'. Refute it at one input. -/
def fnSameIgnoresPositionsOnChainsWrong : ChangeSpec := { name := "fnSameIgnoresPositionsOnChains", fn := fun _ => fun
  | [d1, d2, d3, d4, d5] => { results := [.lit (.bool false)], args := [d1, d2, d3, d4, d5] }
  | _ => none }
def FnSameIgnoresPositionsOnChainsWrongFalsely : Prop := fnSameIgnoresPositionsOnChainsRow.holds Try.pinned (OpenSpec.ofChange fnSameIgnoresPositionsOnChainsWrong)

end Rows
end Go.Proofs.Qxb6616771a

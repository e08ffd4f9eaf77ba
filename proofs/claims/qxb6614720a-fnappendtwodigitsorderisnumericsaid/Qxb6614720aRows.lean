/-
  No cell of these rows narrows 'for every input' (looked for: loops, veiled, ifaces, maps, wideKeys, modest, calm, conditions, laid).
  DERIVED. THE GIVEN ROWS OF THIS SEAT. 1 by the template 'for every input the law returns true; each argument reads behind the call as it read before'; 0 by the template 'total and deterministic' (their statements: Qxb6614720aTotals.lean).
  GIVEN WITH THE SEED: the statements are not yours to turn. If you find one false, say at which input.
  Laid BY PROGRAM, IN A SANDBOX (cutbox-rows.mjs): the forced cells as the released guide's own fill.sh prints them over the translation 228173cc94ea82a3… (all of the seat's roots in one cut). By AI agents, Wed Nov 11 2026. No macro, syntax, notation, axiom, sorry.
-/
import Derived.Test.Qxb6614720aChecked
import GoSem.Claim
import GoSem.ClaimJoined
import GoSem.ClaimMapViews
import Derived.JoinedTies
import Derived.KernelRfl
namespace Go.Proofs.Qxb6614720a
/- THE CELL 'sum', in the pinned program and in every row, IS THE sha256 OF THE DUMP (.gsa) THAT Qxb6614720aProg.lean LOADS. Nothing in Lean hashes anything: it is a label: what it is worth is what the hold of that sum in a sandbox is worth. -/
noncomputable def Try.pinned : Pinned := { name := "qxb6614720a", sum := "228173cc94ea82a3e2de5019d4d1f5addfe6e9e885bed7f9b32fb6507af6f442", checked := Try.checked }
namespace Rows
def none {H : Type} : Left H := { results := [], args := [] }

/-- 'zzlaws_pkg_signer_b1.FnAppendTwoDigitsOrderIsNumeric': WHATEVER THE INPUT: true; the input reads as it did. -/
def fnAppendTwoDigitsOrderIsNumericSpec : ChangeSpec := { name := "fnAppendTwoDigitsOrderIsNumeric", fn := fun _ => fun
  | [d1, d2] => { results := [.lit (.bool true)], args := [d1, d2] }
  | _ => none }
def fnAppendTwoDigitsOrderIsNumericRow : OpenClaim := { program := "qxb6614720a", sum := "228173cc94ea82a3e2de5019d4d1f5addfe6e9e885bed7f9b32fb6507af6f442", func := "example.com/exact-zone/exact-zone/zzlaws_pkg_signer_b1.FnAppendTwoDigitsOrderIsNumeric", spec := "fnAppendTwoDigitsOrderIsNumeric", apart := false }
def FnAppendTwoDigitsOrderIsNumericSaid : Prop := fnAppendTwoDigitsOrderIsNumericRow.holds Try.pinned (OpenSpec.ofChange fnAppendTwoDigitsOrderIsNumericSpec)

/-- ITS FALSE NEIGHBOUR: 'it returns false'. Refute it at one input. -/
def fnAppendTwoDigitsOrderIsNumericWrong : ChangeSpec := { name := "fnAppendTwoDigitsOrderIsNumeric", fn := fun _ => fun
  | [d1, d2] => { results := [.lit (.bool false)], args := [d1, d2] }
  | _ => none }
def FnAppendTwoDigitsOrderIsNumericWrongFalsely : Prop := fnAppendTwoDigitsOrderIsNumericRow.holds Try.pinned (OpenSpec.ofChange fnAppendTwoDigitsOrderIsNumericWrong)

end Rows
end Go.Proofs.Qxb6614720a

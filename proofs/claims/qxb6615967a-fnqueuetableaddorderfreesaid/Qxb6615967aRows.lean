/-
  No cell of these rows narrows 'for every input' (looked for: loops, veiled, ifaces, maps, wideKeys, modest, calm, conditions, laid).
  DERIVED. THE GIVEN ROWS OF THIS SEAT. 1 by the template 'for every input the law returns true; each argument reads behind the call as it read before'; 0 by the template 'total and deterministic' (their statements: Qxb6615967aTotals.lean).
  GIVEN WITH THE SEED: the statements are not yours to turn. If you find one false, say at which input.
  Laid BY PROGRAM, IN A SANDBOX (cutbox-rows.mjs): the forced cells as the released guide's own fill.sh prints them over the translation 8d81915e605bc692… (all of the seat's roots in one cut). By AI agents, Wed Nov 11 2026. No macro, syntax, notation, axiom, sorry.
-/
import Derived.Test.Qxb6615967aChecked
import GoSem.Claim
import GoSem.ClaimJoined
import GoSem.ClaimMapViews
import Derived.JoinedTies
import Derived.KernelRfl
namespace Go.Proofs.Qxb6615967a
/- THE CELL 'sum', in the pinned program and in every row, IS THE sha256 OF THE DUMP (.gsa) THAT Qxb6615967aProg.lean LOADS. Nothing in Lean hashes anything: it is a label: what it is worth is what the hold of that sum in a sandbox is worth. -/
noncomputable def Try.pinned : Pinned := { name := "qxb6615967a", sum := "8d81915e605bc692852e04c8ae74fa24706467e8abf8ef4aa5c49093271da11c", checked := Try.checked }
namespace Rows
def none {H : Type} : Left H := { results := [], args := [] }

/-- 'zzlaws_root_b1.FnQueueTableAddOrderFree': WHATEVER THE INPUT: true; the input reads as it did. -/
def fnQueueTableAddOrderFreeSpec : ChangeSpec := { name := "fnQueueTableAddOrderFree", fn := fun _ => fun
  | [d1, d2] => { results := [.lit (.bool true)], args := [d1, d2] }
  | _ => none }
def fnQueueTableAddOrderFreeRow : OpenClaim := { program := "qxb6615967a", sum := "8d81915e605bc692852e04c8ae74fa24706467e8abf8ef4aa5c49093271da11c", func := "example.com/gapwarden/gapwarden/zzlaws_root_b1.FnQueueTableAddOrderFree", spec := "fnQueueTableAddOrderFree", apart := false }
def FnQueueTableAddOrderFreeSaid : Prop := fnQueueTableAddOrderFreeRow.holds Try.pinned (OpenSpec.ofChange fnQueueTableAddOrderFreeSpec)

/-- ITS FALSE NEIGHBOUR: 'it returns false'. Refute it at one input. -/
def fnQueueTableAddOrderFreeWrong : ChangeSpec := { name := "fnQueueTableAddOrderFree", fn := fun _ => fun
  | [d1, d2] => { results := [.lit (.bool false)], args := [d1, d2] }
  | _ => none }
def FnQueueTableAddOrderFreeWrongFalsely : Prop := fnQueueTableAddOrderFreeRow.holds Try.pinned (OpenSpec.ofChange fnQueueTableAddOrderFreeWrong)

end Rows
end Go.Proofs.Qxb6615967a

/-
  No cell of these rows narrows 'for every input' (looked for: loops, veiled, ifaces, maps, wideKeys, modest, calm, conditions, laid).
  DERIVED. THE GIVEN ROWS OF THIS SEAT. 4 by the template 'for every input the law returns true; each argument reads behind the call as it read before'; 0 by the template 'total and deterministic' (their statements: Qxb6615840aTotals.lean).
  GIVEN WITH THE SEED: the statements are not yours to turn. If you find one false, say at which input.
  Laid BY PROGRAM, IN A SANDBOX (cutbox-rows.mjs): the forced cells as the released guide's own fill.sh prints them over the translation 7ad52b75155a41fe… (all of the seat's roots in one cut). By AI agents, Wed Nov 11 2026. No macro, syntax, notation, axiom, sorry.
-/
import Derived.Test.Qxb6615840aChecked
import GoSem.Claim
import GoSem.ClaimJoined
import GoSem.ClaimMapViews
import Derived.JoinedTies
import Derived.KernelRfl
namespace Go.Proofs.Qxb6615840a
/- THE CELL 'sum', in the pinned program and in every row, IS THE sha256 OF THE DUMP (.gsa) THAT Qxb6615840aProg.lean LOADS. Nothing in Lean hashes anything: it is a label: what it is worth is what the hold of that sum in a sandbox is worth. -/
noncomputable def Try.pinned : Pinned := { name := "qxb6615840a", sum := "7ad52b75155a41fe6c7ca7157b52cb05371e7a9f1e16df3b9d0a591118e9f9cf", checked := Try.checked }
namespace Rows
def none {H : Type} : Left H := { results := [], args := [] }

/-- 'zzlaws_internal_strictjson_b1.FnNewReaderSharesCallersBytes': WHATEVER THE INPUT: true; the input reads as it did. -/
def fnNewReaderSharesCallersBytesSpec : ChangeSpec := { name := "fnNewReaderSharesCallersBytes", fn := fun _ => fun
  | [d] => { results := [.lit (.bool true)], args := [d] }
  | _ => none }
def fnNewReaderSharesCallersBytesRow : OpenClaim := { program := "qxb6615840a", sum := "7ad52b75155a41fe6c7ca7157b52cb05371e7a9f1e16df3b9d0a591118e9f9cf", func := "example.com/sessions-on-record/sessions-on-record/zzlaws_internal_strictjson_b1.FnNewReaderSharesCallersBytes", spec := "fnNewReaderSharesCallersBytes", apart := false }
def FnNewReaderSharesCallersBytesSaid : Prop := fnNewReaderSharesCallersBytesRow.holds Try.pinned (OpenSpec.ofChange fnNewReaderSharesCallersBytesSpec)

/-- ITS FALSE NEIGHBOUR: 'it returns false'. Refute it at one input. -/
def fnNewReaderSharesCallersBytesWrong : ChangeSpec := { name := "fnNewReaderSharesCallersBytes", fn := fun _ => fun
  | [d] => { results := [.lit (.bool false)], args := [d] }
  | _ => none }
def FnNewReaderSharesCallersBytesWrongFalsely : Prop := fnNewReaderSharesCallersBytesRow.holds Try.pinned (OpenSpec.ofChange fnNewReaderSharesCallersBytesWrong)

/-- 'zzlaws_internal_strictjson_b1.FnCloseCountsTokenBytes': WHATEVER THE INPUT: true; the input reads as it did. -/
def fnCloseCountsTokenBytesSpec : ChangeSpec := { name := "fnCloseCountsTokenBytes", fn := fun _ => fun
  | [d] => { results := [.lit (.bool true)], args := [d] }
  | _ => none }
def fnCloseCountsTokenBytesRow : OpenClaim := { program := "qxb6615840a", sum := "7ad52b75155a41fe6c7ca7157b52cb05371e7a9f1e16df3b9d0a591118e9f9cf", func := "example.com/sessions-on-record/sessions-on-record/zzlaws_internal_strictjson_b1.FnCloseCountsTokenBytes", spec := "fnCloseCountsTokenBytes", apart := false }
def FnCloseCountsTokenBytesSaid : Prop := fnCloseCountsTokenBytesRow.holds Try.pinned (OpenSpec.ofChange fnCloseCountsTokenBytesSpec)

/-- ITS FALSE NEIGHBOUR: 'it returns false'. Refute it at one input. -/
def fnCloseCountsTokenBytesWrong : ChangeSpec := { name := "fnCloseCountsTokenBytes", fn := fun _ => fun
  | [d] => { results := [.lit (.bool false)], args := [d] }
  | _ => none }
def FnCloseCountsTokenBytesWrongFalsely : Prop := fnCloseCountsTokenBytesRow.holds Try.pinned (OpenSpec.ofChange fnCloseCountsTokenBytesWrong)

/-- 'zzlaws_internal_strictjson_b1.FnWriteSplitAnywhere': WHATEVER THE INPUT: true; the input reads as it did. -/
def fnWriteSplitAnywhereSpec : ChangeSpec := { name := "fnWriteSplitAnywhere", fn := fun _ => fun
  | [d1, d2, d3] => { results := [.lit (.bool true)], args := [d1, d2, d3] }
  | _ => none }
def fnWriteSplitAnywhereRow : OpenClaim := { program := "qxb6615840a", sum := "7ad52b75155a41fe6c7ca7157b52cb05371e7a9f1e16df3b9d0a591118e9f9cf", func := "example.com/sessions-on-record/sessions-on-record/zzlaws_internal_strictjson_b1.FnWriteSplitAnywhere", spec := "fnWriteSplitAnywhere", apart := false }
def FnWriteSplitAnywhereSaid : Prop := fnWriteSplitAnywhereRow.holds Try.pinned (OpenSpec.ofChange fnWriteSplitAnywhereSpec)

/-- ITS FALSE NEIGHBOUR: 'it returns false'. Refute it at one input. -/
def fnWriteSplitAnywhereWrong : ChangeSpec := { name := "fnWriteSplitAnywhere", fn := fun _ => fun
  | [d1, d2, d3] => { results := [.lit (.bool false)], args := [d1, d2, d3] }
  | _ => none }
def FnWriteSplitAnywhereWrongFalsely : Prop := fnWriteSplitAnywhereRow.holds Try.pinned (OpenSpec.ofChange fnWriteSplitAnywhereWrong)

/-- 'zzlaws_internal_strictjson_b1.FnWriteTellsPiecesApart': WHATEVER THE INPUT: true; the input reads as it did. -/
def fnWriteTellsPiecesApartSpec : ChangeSpec := { name := "fnWriteTellsPiecesApart", fn := fun _ => fun
  | [d1, d2, d3] => { results := [.lit (.bool true)], args := [d1, d2, d3] }
  | _ => none }
def fnWriteTellsPiecesApartRow : OpenClaim := { program := "qxb6615840a", sum := "7ad52b75155a41fe6c7ca7157b52cb05371e7a9f1e16df3b9d0a591118e9f9cf", func := "example.com/sessions-on-record/sessions-on-record/zzlaws_internal_strictjson_b1.FnWriteTellsPiecesApart", spec := "fnWriteTellsPiecesApart", apart := false }
def FnWriteTellsPiecesApartSaid : Prop := fnWriteTellsPiecesApartRow.holds Try.pinned (OpenSpec.ofChange fnWriteTellsPiecesApartSpec)

/-- ITS FALSE NEIGHBOUR: 'it returns false'. Refute it at one input. -/
def fnWriteTellsPiecesApartWrong : ChangeSpec := { name := "fnWriteTellsPiecesApart", fn := fun _ => fun
  | [d1, d2, d3] => { results := [.lit (.bool false)], args := [d1, d2, d3] }
  | _ => none }
def FnWriteTellsPiecesApartWrongFalsely : Prop := fnWriteTellsPiecesApartRow.holds Try.pinned (OpenSpec.ofChange fnWriteTellsPiecesApartWrong)

end Rows
end Go.Proofs.Qxb6615840a

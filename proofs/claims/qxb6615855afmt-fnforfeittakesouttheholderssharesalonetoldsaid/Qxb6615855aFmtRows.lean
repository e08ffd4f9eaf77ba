/-
  No cell of these rows narrows 'for every input' (looked for: loops, veiled, ifaces, maps, wideKeys, modest, calm, conditions, laid).
  DERIVED. THE GIVEN ROWS OF THIS SEAT. 4 by the template 'for every input the law returns true; each argument reads behind the call as it read before'; 0 by the template 'total and deterministic' (their statements: Qxb6615855aFmtTotals.lean).
  GIVEN WITH THE SEED: the statements are not yours to turn. If you find one false, say at which input.
  Laid BY PROGRAM, IN A SANDBOX (cutbox-rows.mjs): the forced cells as the released guide's own fill.sh prints them over the translation e9f8eef11526ce55… (all of the seat's roots in one cut). By AI agents, Wed Nov 11 2026. No macro, syntax, notation, axiom, sorry.
-/
import Derived.Test.Qxb6615855aFmtChecked
import GoSem.Claim
import GoSem.ClaimJoined
import GoSem.ClaimMapViews
import Derived.JoinedTies
import Derived.KernelRfl
namespace Go.Proofs.Qxb6615855aFmt
/- THE CELL 'sum', in the pinned program and in every row, IS THE sha256 OF THE DUMP (.gsa) THAT Qxb6615855aFmtProg.lean LOADS. Nothing in Lean hashes anything: it is a label: what it is worth is what the hold of that sum in a sandbox is worth. -/
noncomputable def Tryf.pinned : Pinned := { name := "qxb6615855afmt", sum := "e9f8eef11526ce558b5fa0dc8c3a416e5f65a1014a7525761eb2557c2ff02e1a", checked := Tryf.checked }
namespace Rows
def none {H : Type} : Left H := { results := [], args := [] }

/-- 'zzlaws_internal_holding_b1.FnLeftIsWholeSumOrRefused': WHATEVER THE INPUT: true; the input reads as it did. -/
def fnLeftIsWholeSumOrRefusedSpec : ChangeSpec := { name := "fnLeftIsWholeSumOrRefused", fn := fun _ => fun
  | [d1, d2, d3, d4, d5] => { results := [.lit (.bool true)], args := [d1, d2, d3, d4, d5] }
  | _ => none }
def fnLeftIsWholeSumOrRefusedRow : OpenClaim := { program := "qxb6615855afmt", sum := "e9f8eef11526ce558b5fa0dc8c3a416e5f65a1014a7525761eb2557c2ff02e1a", func := "example.com/vestline/vestline/zzlaws_internal_holding_b1.FnLeftIsWholeSumOrRefused", spec := "fnLeftIsWholeSumOrRefused", stops := ["fmt.errorf"], inPlace := ["fmt.errorf"], apart := false }
/-- NO THEOREM (fmt's text is open here; it may be false): for the released tool's asking of the row's closed facts alone. THE STATEMENT IS 'FnLeftIsWholeSumOrRefusedToldSaid' (Qxb6615855aFmtCards.lean). -/
def FnLeftIsWholeSumOrRefusedFormAsk : Prop := fnLeftIsWholeSumOrRefusedRow.holds Tryf.pinned (OpenSpec.ofChange fnLeftIsWholeSumOrRefusedSpec)

/-- ITS FALSE NEIGHBOUR: 'it returns false'. Refute it at one input. -/
def fnLeftIsWholeSumOrRefusedWrong : ChangeSpec := { name := "fnLeftIsWholeSumOrRefused", fn := fun _ => fun
  | [d1, d2, d3, d4, d5] => { results := [.lit (.bool false)], args := [d1, d2, d3, d4, d5] }
  | _ => none }
def FnLeftIsWholeSumOrRefusedWrongFormAsk : Prop := fnLeftIsWholeSumOrRefusedRow.holds Tryf.pinned (OpenSpec.ofChange fnLeftIsWholeSumOrRefusedWrong)

/-- 'zzlaws_internal_holding_b1.FnLeftGrowsByAnInsertedTranche': WHATEVER THE INPUT: true; the input reads as it did. -/
def fnLeftGrowsByAnInsertedTrancheSpec : ChangeSpec := { name := "fnLeftGrowsByAnInsertedTranche", fn := fun _ => fun
  | [d1, d2, d3, d4] => { results := [.lit (.bool true)], args := [d1, d2, d3, d4] }
  | _ => none }
def fnLeftGrowsByAnInsertedTrancheRow : OpenClaim := { program := "qxb6615855afmt", sum := "e9f8eef11526ce558b5fa0dc8c3a416e5f65a1014a7525761eb2557c2ff02e1a", func := "example.com/vestline/vestline/zzlaws_internal_holding_b1.FnLeftGrowsByAnInsertedTranche", spec := "fnLeftGrowsByAnInsertedTranche", stops := ["fmt.errorf"], inPlace := ["fmt.errorf"], apart := false }
/-- NO THEOREM (fmt's text is open here; it may be false): for the released tool's asking of the row's closed facts alone. THE STATEMENT IS 'FnLeftGrowsByAnInsertedTrancheToldSaid' (Qxb6615855aFmtCards.lean). -/
def FnLeftGrowsByAnInsertedTrancheFormAsk : Prop := fnLeftGrowsByAnInsertedTrancheRow.holds Tryf.pinned (OpenSpec.ofChange fnLeftGrowsByAnInsertedTrancheSpec)

/-- ITS FALSE NEIGHBOUR: 'it returns false'. Refute it at one input. -/
def fnLeftGrowsByAnInsertedTrancheWrong : ChangeSpec := { name := "fnLeftGrowsByAnInsertedTranche", fn := fun _ => fun
  | [d1, d2, d3, d4] => { results := [.lit (.bool false)], args := [d1, d2, d3, d4] }
  | _ => none }
def FnLeftGrowsByAnInsertedTrancheWrongFormAsk : Prop := fnLeftGrowsByAnInsertedTrancheRow.holds Tryf.pinned (OpenSpec.ofChange fnLeftGrowsByAnInsertedTrancheWrong)

/-- 'zzlaws_internal_holding_b1.FnForfeitTakesOutTheHoldersSharesAlone': WHATEVER THE INPUT: true; the input reads as it did. -/
def fnForfeitTakesOutTheHoldersSharesAloneSpec : ChangeSpec := { name := "fnForfeitTakesOutTheHoldersSharesAlone", fn := fun _ => fun
  | [d1, d2, d3, d4, d5] => { results := [.lit (.bool true)], args := [d1, d2, d3, d4, d5] }
  | _ => none }
def fnForfeitTakesOutTheHoldersSharesAloneRow : OpenClaim := { program := "qxb6615855afmt", sum := "e9f8eef11526ce558b5fa0dc8c3a416e5f65a1014a7525761eb2557c2ff02e1a", func := "example.com/vestline/vestline/zzlaws_internal_holding_b1.FnForfeitTakesOutTheHoldersSharesAlone", spec := "fnForfeitTakesOutTheHoldersSharesAlone", stops := ["fmt.errorf"], inPlace := ["fmt.errorf"], apart := false }
/-- NO THEOREM (fmt's text is open here; it may be false): for the released tool's asking of the row's closed facts alone. THE STATEMENT IS 'FnForfeitTakesOutTheHoldersSharesAloneToldSaid' (Qxb6615855aFmtCards.lean). -/
def FnForfeitTakesOutTheHoldersSharesAloneFormAsk : Prop := fnForfeitTakesOutTheHoldersSharesAloneRow.holds Tryf.pinned (OpenSpec.ofChange fnForfeitTakesOutTheHoldersSharesAloneSpec)

/-- ITS FALSE NEIGHBOUR: 'it returns false'. Refute it at one input. -/
def fnForfeitTakesOutTheHoldersSharesAloneWrong : ChangeSpec := { name := "fnForfeitTakesOutTheHoldersSharesAlone", fn := fun _ => fun
  | [d1, d2, d3, d4, d5] => { results := [.lit (.bool false)], args := [d1, d2, d3, d4, d5] }
  | _ => none }
def FnForfeitTakesOutTheHoldersSharesAloneWrongFormAsk : Prop := fnForfeitTakesOutTheHoldersSharesAloneRow.holds Tryf.pinned (OpenSpec.ofChange fnForfeitTakesOutTheHoldersSharesAloneWrong)

/-- 'zzlaws_internal_holding_b1.FnForfeitLeavesNothingAndSparesOthers': WHATEVER THE INPUT: true; the input reads as it did. -/
def fnForfeitLeavesNothingAndSparesOthersSpec : ChangeSpec := { name := "fnForfeitLeavesNothingAndSparesOthers", fn := fun _ => fun
  | [d1, d2, d3, d4, d5, d6] => { results := [.lit (.bool true)], args := [d1, d2, d3, d4, d5, d6] }
  | _ => none }
def fnForfeitLeavesNothingAndSparesOthersRow : OpenClaim := { program := "qxb6615855afmt", sum := "e9f8eef11526ce558b5fa0dc8c3a416e5f65a1014a7525761eb2557c2ff02e1a", func := "example.com/vestline/vestline/zzlaws_internal_holding_b1.FnForfeitLeavesNothingAndSparesOthers", spec := "fnForfeitLeavesNothingAndSparesOthers", stops := ["fmt.errorf"], inPlace := ["fmt.errorf"], apart := false }
/-- NO THEOREM (fmt's text is open here; it may be false): for the released tool's asking of the row's closed facts alone. THE STATEMENT IS 'FnForfeitLeavesNothingAndSparesOthersToldSaid' (Qxb6615855aFmtCards.lean). -/
def FnForfeitLeavesNothingAndSparesOthersFormAsk : Prop := fnForfeitLeavesNothingAndSparesOthersRow.holds Tryf.pinned (OpenSpec.ofChange fnForfeitLeavesNothingAndSparesOthersSpec)

/-- ITS FALSE NEIGHBOUR: 'it returns false'. Refute it at one input. -/
def fnForfeitLeavesNothingAndSparesOthersWrong : ChangeSpec := { name := "fnForfeitLeavesNothingAndSparesOthers", fn := fun _ => fun
  | [d1, d2, d3, d4, d5, d6] => { results := [.lit (.bool false)], args := [d1, d2, d3, d4, d5, d6] }
  | _ => none }
def FnForfeitLeavesNothingAndSparesOthersWrongFormAsk : Prop := fnForfeitLeavesNothingAndSparesOthersRow.holds Tryf.pinned (OpenSpec.ofChange fnForfeitLeavesNothingAndSparesOthersWrong)

end Rows
end Go.Proofs.Qxb6615855aFmt

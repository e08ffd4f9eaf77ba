/-
  DERIVED. GIVEN WITH THE SEED: THE CARDS: each row of Qxb6615855aFmtRows.lean that lists a variable, with what it lists TIED to the program's text (the seventh form; the later family's looks); each row that meets fmt, with fmt's text TOLD by the authors' own Lean function (tested against real Go, not proved from fmt's source: count such statements apart). THE CARD IS WHAT COUNTS. Prove the row's statement (the work); the ties are given (Qxb6615855aFmtTie.lean); close each card by the builder's one call (the guide's Derived/Test/ToyasCard.lean, 'card_holds'). Laid BY PROGRAM, IN A SANDBOX (cutbox-door.mjs). By AI agents, Wed Nov 11 2026. No macro, syntax, notation, axiom, sorry.
-/
import Derived.Test.Qxb6615855aFmtRows
import GoSem.ClaimSeven
namespace Go.Proofs.Qxb6615855aFmt
namespace Rows

/-- THE TOLD CARD OF 'zzlaws_internal_holding_b1.FnLeftIsWholeSumOrRefused'. -/
def fnLeftIsWholeSumOrRefusedCard : Claim7 := { stood := { row := fnLeftIsWholeSumOrRefusedRow, standIns := [], harness := (true, "5df6d782d1a0e02af4dae07a2dba15a868f65f7093fe292dbb77eaf7b537d944"), looks := false }, told := true, goes := false }
def FnLeftIsWholeSumOrRefusedToldSaid : Prop := Claim7.holds Tryf.pinned (.plain (OpenSpec.ofChange fnLeftIsWholeSumOrRefusedSpec)) fnLeftIsWholeSumOrRefusedCard
/-- ITS FALSE NEIGHBOUR. Refute it at one input. -/
def FnLeftIsWholeSumOrRefusedToldWrongFalsely : Prop := Claim7.holds Tryf.pinned (.plain (OpenSpec.ofChange fnLeftIsWholeSumOrRefusedWrong)) fnLeftIsWholeSumOrRefusedCard

/-- THE TOLD CARD OF 'zzlaws_internal_holding_b1.FnLeftGrowsByAnInsertedTranche'. -/
def fnLeftGrowsByAnInsertedTrancheCard : Claim7 := { stood := { row := fnLeftGrowsByAnInsertedTrancheRow, standIns := [], harness := (true, "5df6d782d1a0e02af4dae07a2dba15a868f65f7093fe292dbb77eaf7b537d944"), looks := false }, told := true, goes := false }
def FnLeftGrowsByAnInsertedTrancheToldSaid : Prop := Claim7.holds Tryf.pinned (.plain (OpenSpec.ofChange fnLeftGrowsByAnInsertedTrancheSpec)) fnLeftGrowsByAnInsertedTrancheCard
/-- ITS FALSE NEIGHBOUR. Refute it at one input. -/
def FnLeftGrowsByAnInsertedTrancheToldWrongFalsely : Prop := Claim7.holds Tryf.pinned (.plain (OpenSpec.ofChange fnLeftGrowsByAnInsertedTrancheWrong)) fnLeftGrowsByAnInsertedTrancheCard

/-- THE TOLD CARD OF 'zzlaws_internal_holding_b1.FnForfeitTakesOutTheHoldersSharesAlone'. -/
def fnForfeitTakesOutTheHoldersSharesAloneCard : Claim7 := { stood := { row := fnForfeitTakesOutTheHoldersSharesAloneRow, standIns := [], harness := (true, "5df6d782d1a0e02af4dae07a2dba15a868f65f7093fe292dbb77eaf7b537d944"), looks := false }, told := true, goes := false }
def FnForfeitTakesOutTheHoldersSharesAloneToldSaid : Prop := Claim7.holds Tryf.pinned (.plain (OpenSpec.ofChange fnForfeitTakesOutTheHoldersSharesAloneSpec)) fnForfeitTakesOutTheHoldersSharesAloneCard
/-- ITS FALSE NEIGHBOUR. Refute it at one input. -/
def FnForfeitTakesOutTheHoldersSharesAloneToldWrongFalsely : Prop := Claim7.holds Tryf.pinned (.plain (OpenSpec.ofChange fnForfeitTakesOutTheHoldersSharesAloneWrong)) fnForfeitTakesOutTheHoldersSharesAloneCard

/-- THE TOLD CARD OF 'zzlaws_internal_holding_b1.FnForfeitLeavesNothingAndSparesOthers'. -/
def fnForfeitLeavesNothingAndSparesOthersCard : Claim7 := { stood := { row := fnForfeitLeavesNothingAndSparesOthersRow, standIns := [], harness := (true, "5df6d782d1a0e02af4dae07a2dba15a868f65f7093fe292dbb77eaf7b537d944"), looks := false }, told := true, goes := false }
def FnForfeitLeavesNothingAndSparesOthersToldSaid : Prop := Claim7.holds Tryf.pinned (.plain (OpenSpec.ofChange fnForfeitLeavesNothingAndSparesOthersSpec)) fnForfeitLeavesNothingAndSparesOthersCard
/-- ITS FALSE NEIGHBOUR. Refute it at one input. -/
def FnForfeitLeavesNothingAndSparesOthersToldWrongFalsely : Prop := Claim7.holds Tryf.pinned (.plain (OpenSpec.ofChange fnForfeitLeavesNothingAndSparesOthersWrong)) fnForfeitLeavesNothingAndSparesOthersCard
end Rows
end Go.Proofs.Qxb6615855aFmt

/-
  DERIVED. GIVEN WITH THE SEED: THE CARDS: each row of Qxb6615056aFmtRows.lean that lists a variable, with what it lists TIED to the program's text (the seventh form; the later family's looks); each row that meets fmt, with fmt's text TOLD by the authors' own Lean function (tested against real Go, not proved from fmt's source: count such statements apart). THE CARD IS WHAT COUNTS. Prove the row's statement (the work); the ties are given (Qxb6615056aFmtTie.lean); close each card by the builder's one call (the guide's Derived/Test/ToyasCard.lean, 'card_holds'). Laid BY PROGRAM, IN A SANDBOX (cutbox-door.mjs). By AI agents, Wed Nov 11 2026. No macro, syntax, notation, axiom, sorry.
-/
import Derived.Test.Qxb6615056aFmtRows
import GoSem.ClaimSeven
namespace Go.Proofs.Qxb6615056aFmt
namespace Rows

/-- THE TOLD CARD OF 'zzlaws_root_b1.FnShowEquivocationHalves'. -/
def fnShowEquivocationHalvesCard : Claim7 := { stood := { row := fnShowEquivocationHalvesRow, standIns := [], harness := (true, "77eefb00791dd3bbb3040477f18bfd78e13daf8d3d1bd8f7705d47d0b02c73cc"), looks := false }, told := true, goes := false }
def FnShowEquivocationHalvesToldSaid : Prop := Claim7.holds Tryf.pinned (.plain (OpenSpec.ofChange fnShowEquivocationHalvesSpec)) fnShowEquivocationHalvesCard
/-- ITS FALSE NEIGHBOUR. Refute it at one input. -/
def FnShowEquivocationHalvesToldWrongFalsely : Prop := Claim7.holds Tryf.pinned (.plain (OpenSpec.ofChange fnShowEquivocationHalvesWrong)) fnShowEquivocationHalvesCard

/-- THE TOLD CARD OF 'zzlaws_root_b1.FnSimulationStepMatchesModel'. -/
def fnSimulationStepMatchesModelCard : Claim7 := { stood := { row := fnSimulationStepMatchesModelRow, standIns := [], harness := (true, "77eefb00791dd3bbb3040477f18bfd78e13daf8d3d1bd8f7705d47d0b02c73cc"), looks := false }, told := true, goes := false }
def FnSimulationStepMatchesModelToldSaid : Prop := Claim7.holds Tryf.pinned (.plain (OpenSpec.ofChange fnSimulationStepMatchesModelSpec)) fnSimulationStepMatchesModelCard
/-- ITS FALSE NEIGHBOUR. Refute it at one input. -/
def FnSimulationStepMatchesModelToldWrongFalsely : Prop := Claim7.holds Tryf.pinned (.plain (OpenSpec.ofChange fnSimulationStepMatchesModelWrong)) fnSimulationStepMatchesModelCard

/-- THE TOLD CARD OF 'zzlaws_root_b1.FnSimulationRestartAgrees'. -/
def fnSimulationRestartAgreesCard : Claim7 := { stood := { row := fnSimulationRestartAgreesRow, standIns := [], harness := (true, "77eefb00791dd3bbb3040477f18bfd78e13daf8d3d1bd8f7705d47d0b02c73cc"), looks := false }, told := true, goes := false }
def FnSimulationRestartAgreesToldSaid : Prop := Claim7.holds Tryf.pinned (.plain (OpenSpec.ofChange fnSimulationRestartAgreesSpec)) fnSimulationRestartAgreesCard
/-- ITS FALSE NEIGHBOUR. Refute it at one input. -/
def FnSimulationRestartAgreesToldWrongFalsely : Prop := Claim7.holds Tryf.pinned (.plain (OpenSpec.ofChange fnSimulationRestartAgreesWrong)) fnSimulationRestartAgreesCard

/-- THE TOLD AND TIED CARD OF 'zzlaws_root_b1.FnDepthsBoundEquivocationRuns'. -/
def fnDepthsBoundEquivocationRunsCard : Claim7 := { stood := { row := fnDepthsBoundEquivocationRunsRow, standIns := [], harness := (true, "77eefb00791dd3bbb3040477f18bfd78e13daf8d3d1bd8f7705d47d0b02c73cc"), looks := false }, told := true, laidByText := true, laidKinds := [.data], laidTests := true, laidLooks := .later, goes := false }
def FnDepthsBoundEquivocationRunsToldSaid : Prop := Claim7.holds Tryf.pinned (.plain (OpenSpec.ofChange fnDepthsBoundEquivocationRunsSpec)) fnDepthsBoundEquivocationRunsCard
/-- ITS FALSE NEIGHBOUR. Refute it at one input. -/
def FnDepthsBoundEquivocationRunsToldWrongFalsely : Prop := Claim7.holds Tryf.pinned (.plain (OpenSpec.ofChange fnDepthsBoundEquivocationRunsWrong)) fnDepthsBoundEquivocationRunsCard
end Rows
end Go.Proofs.Qxb6615056aFmt

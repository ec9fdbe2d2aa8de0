/-
  NARROWER THAN 'FOR EVERY INPUT', by the rows' own cells (each row's printed sentence says how): FnDepthsBoundEquivocationRuns: laid.
  DERIVED. THE GIVEN ROWS OF THIS SEAT. 4 by the template 'for every input the law returns true; each argument reads behind the call as it read before'; 0 by the template 'total and deterministic' (their statements: Qxb6615056aFmtTotals.lean).
  GIVEN WITH THE SEED: the statements are not yours to turn. If you find one false, say at which input.
  Laid BY PROGRAM, IN A SANDBOX (cutbox-rows.mjs): the forced cells as the released guide's own fill.sh prints them over the translation 3fa34fdb0c590453… (all of the seat's roots in one cut). By AI agents, Wed Nov 11 2026. No macro, syntax, notation, axiom, sorry.
-/
import Derived.Test.Qxb6615056aFmtChecked
import GoSem.Claim
import GoSem.ClaimJoined
import GoSem.ClaimMapViews
import Derived.JoinedTies
import Derived.KernelRfl
namespace Go.Proofs.Qxb6615056aFmt
/- THE CELL 'sum', in the pinned program and in every row, IS THE sha256 OF THE DUMP (.gsa) THAT Qxb6615056aFmtProg.lean LOADS. Nothing in Lean hashes anything: it is a label: what it is worth is what the hold of that sum in a sandbox is worth. -/
noncomputable def Tryf.pinned : Pinned := { name := "qxb6615056afmt", sum := "3fa34fdb0c59045310acce2843c098aa789c2fbfac0ebed3115c300bf99cd3c0", checked := Tryf.checked }
namespace Rows
def none {H : Type} : Left H := { results := [], args := [] }

/- WHAT THE LISTED PACKAGE-LEVEL VARIABLES READ AS WHEN THE CALL BEGINS. Each datum BY PROGRAM (the guide's laid-datum.mjs) off the statement by which the dump's own 'gosem.cut.vars' lays the variable. In a bare row this is a premise. The card (Qxb6615056aFmtCards.lean) ties it to the program's text. -/
def laid_math_bits_deBruijn32tab {H : Type} : DataW H := .agg [.lit (.int .u8 0), .lit (.int .u8 1), .lit (.int .u8 28), .lit (.int .u8 2), .lit (.int .u8 29), .lit (.int .u8 14), .lit (.int .u8 24), .lit (.int .u8 3), .lit (.int .u8 30), .lit (.int .u8 22), .lit (.int .u8 20), .lit (.int .u8 15), .lit (.int .u8 25), .lit (.int .u8 17), .lit (.int .u8 4), .lit (.int .u8 8), .lit (.int .u8 31), .lit (.int .u8 27), .lit (.int .u8 13), .lit (.int .u8 23), .lit (.int .u8 21), .lit (.int .u8 19), .lit (.int .u8 16), .lit (.int .u8 7), .lit (.int .u8 26), .lit (.int .u8 12), .lit (.int .u8 18), .lit (.int .u8 6), .lit (.int .u8 11), .lit (.int .u8 5), .lit (.int .u8 10), .lit (.int .u8 9)]

/-- 'zzlaws_root_b1.FnShowEquivocationHalves': WHATEVER THE INPUT: true; the input reads as it did. -/
def fnShowEquivocationHalvesSpec : ChangeSpec := { name := "fnShowEquivocationHalves", fn := fun _ => fun
  | [d1, d2, d3, d4, d5] => { results := [.lit (.bool true)], args := [d1, d2, d3, d4, d5] }
  | _ => none }
def fnShowEquivocationHalvesRow : OpenClaim := { program := "qxb6615056afmt", sum := "3fa34fdb0c59045310acce2843c098aa789c2fbfac0ebed3115c300bf99cd3c0", func := "example.com/tocsin/tocsin/zzlaws_root_b1.FnShowEquivocationHalves", spec := "fnShowEquivocationHalves", stops := ["fmt.errorf", "fmt.Sprintf"], inPlace := ["fmt.Sprintf"], apart := false }
/-- NO THEOREM (fmt's text is open here; it may be false): for the released tool's asking of the row's closed facts alone. THE STATEMENT IS 'FnShowEquivocationHalvesToldSaid' (Qxb6615056aFmtCards.lean). -/
def FnShowEquivocationHalvesFormAsk : Prop := fnShowEquivocationHalvesRow.holds Tryf.pinned (OpenSpec.ofChange fnShowEquivocationHalvesSpec)

/-- ITS FALSE NEIGHBOUR: 'it returns false'. Refute it at one input. -/
def fnShowEquivocationHalvesWrong : ChangeSpec := { name := "fnShowEquivocationHalves", fn := fun _ => fun
  | [d1, d2, d3, d4, d5] => { results := [.lit (.bool false)], args := [d1, d2, d3, d4, d5] }
  | _ => none }
def FnShowEquivocationHalvesWrongFormAsk : Prop := fnShowEquivocationHalvesRow.holds Tryf.pinned (OpenSpec.ofChange fnShowEquivocationHalvesWrong)

/-- 'zzlaws_root_b1.FnSimulationStepMatchesModel': WHATEVER THE INPUT: true; the input reads as it did. -/
def fnSimulationStepMatchesModelSpec : ChangeSpec := { name := "fnSimulationStepMatchesModel", fn := fun _ => fun
  | [d1, d2, d3, d4, d5] => { results := [.lit (.bool true)], args := [d1, d2, d3, d4, d5] }
  | _ => none }
def fnSimulationStepMatchesModelRow : OpenClaim := { program := "qxb6615056afmt", sum := "3fa34fdb0c59045310acce2843c098aa789c2fbfac0ebed3115c300bf99cd3c0", func := "example.com/tocsin/tocsin/zzlaws_root_b1.FnSimulationStepMatchesModel", spec := "fnSimulationStepMatchesModel", stops := ["fmt.errorf", "fmt.Sprintf"], inPlace := ["fmt.errorf"], unfollowed := true, recurses := true, apart := false }
/-- NO THEOREM (fmt's text is open here; it may be false): for the released tool's asking of the row's closed facts alone. THE STATEMENT IS 'FnSimulationStepMatchesModelToldSaid' (Qxb6615056aFmtCards.lean). -/
def FnSimulationStepMatchesModelFormAsk : Prop := fnSimulationStepMatchesModelRow.holds Tryf.pinned (OpenSpec.ofChange fnSimulationStepMatchesModelSpec)

/-- ITS FALSE NEIGHBOUR: 'it returns false'. Refute it at one input. -/
def fnSimulationStepMatchesModelWrong : ChangeSpec := { name := "fnSimulationStepMatchesModel", fn := fun _ => fun
  | [d1, d2, d3, d4, d5] => { results := [.lit (.bool false)], args := [d1, d2, d3, d4, d5] }
  | _ => none }
def FnSimulationStepMatchesModelWrongFormAsk : Prop := fnSimulationStepMatchesModelRow.holds Tryf.pinned (OpenSpec.ofChange fnSimulationStepMatchesModelWrong)

/-- 'zzlaws_root_b1.FnSimulationRestartAgrees': WHATEVER THE INPUT: true; the input reads as it did. -/
def fnSimulationRestartAgreesSpec : ChangeSpec := { name := "fnSimulationRestartAgrees", fn := fun _ => fun
  | [d1, d2, d3, d4, d5, d6] => { results := [.lit (.bool true)], args := [d1, d2, d3, d4, d5, d6] }
  | _ => none }
def fnSimulationRestartAgreesRow : OpenClaim := { program := "qxb6615056afmt", sum := "3fa34fdb0c59045310acce2843c098aa789c2fbfac0ebed3115c300bf99cd3c0", func := "example.com/tocsin/tocsin/zzlaws_root_b1.FnSimulationRestartAgrees", spec := "fnSimulationRestartAgrees", stops := ["fmt.errorf", "fmt.Sprintf"], inPlace := ["fmt.errorf"], unfollowed := true, recurses := true, apart := false }
/-- NO THEOREM (fmt's text is open here; it may be false): for the released tool's asking of the row's closed facts alone. THE STATEMENT IS 'FnSimulationRestartAgreesToldSaid' (Qxb6615056aFmtCards.lean). -/
def FnSimulationRestartAgreesFormAsk : Prop := fnSimulationRestartAgreesRow.holds Tryf.pinned (OpenSpec.ofChange fnSimulationRestartAgreesSpec)

/-- ITS FALSE NEIGHBOUR: 'it returns false'. Refute it at one input. -/
def fnSimulationRestartAgreesWrong : ChangeSpec := { name := "fnSimulationRestartAgrees", fn := fun _ => fun
  | [d1, d2, d3, d4, d5, d6] => { results := [.lit (.bool false)], args := [d1, d2, d3, d4, d5, d6] }
  | _ => none }
def FnSimulationRestartAgreesWrongFormAsk : Prop := fnSimulationRestartAgreesRow.holds Tryf.pinned (OpenSpec.ofChange fnSimulationRestartAgreesWrong)

/-- 'zzlaws_root_b1.FnDepthsBoundEquivocationRuns': WHATEVER THE INPUT: true; the input reads as it did. -/
def fnDepthsBoundEquivocationRunsSpec : ChangeSpec := { name := "fnDepthsBoundEquivocationRuns", fn := fun _ => fun
  | [d1, d2, d3, d4] => { results := [.lit (.bool true)], args := [d1, d2, d3, d4] }
  | _ => none }
def fnDepthsBoundEquivocationRunsRow : OpenClaim := { program := "qxb6615056afmt", sum := "3fa34fdb0c59045310acce2843c098aa789c2fbfac0ebed3115c300bf99cd3c0", func := "example.com/tocsin/tocsin/zzlaws_root_b1.FnDepthsBoundEquivocationRuns", spec := "fnDepthsBoundEquivocationRuns", stops := ["fmt.errorf", "fmt.Sprintf"], inPlace := ["fmt.errorf"], unfollowed := true, recurses := true, named := ["math/bits.deBruijn32tab"], apart := false, laid := [("math/bits.deBruijn32tab", laid_math_bits_deBruijn32tab)] }
/-- NO THEOREM (fmt's text is open here; it may be false): for the released tool's asking of the row's closed facts alone. THE STATEMENT IS 'FnDepthsBoundEquivocationRunsToldSaid' (Qxb6615056aFmtCards.lean). -/
def FnDepthsBoundEquivocationRunsFormAsk : Prop := fnDepthsBoundEquivocationRunsRow.holds Tryf.pinned (OpenSpec.ofChange fnDepthsBoundEquivocationRunsSpec)

/-- ITS FALSE NEIGHBOUR: 'it returns false'. Refute it at one input. -/
def fnDepthsBoundEquivocationRunsWrong : ChangeSpec := { name := "fnDepthsBoundEquivocationRuns", fn := fun _ => fun
  | [d1, d2, d3, d4] => { results := [.lit (.bool false)], args := [d1, d2, d3, d4] }
  | _ => none }
def FnDepthsBoundEquivocationRunsWrongFormAsk : Prop := fnDepthsBoundEquivocationRunsRow.holds Tryf.pinned (OpenSpec.ofChange fnDepthsBoundEquivocationRunsWrong)

end Rows
end Go.Proofs.Qxb6615056aFmt

/-
  NARROWER THAN 'FOR EVERY INPUT', by the rows' own cells (each row's printed sentence says how): FnDepthsMatchLayeredModel: laid.
  DERIVED. THE GIVEN ROWS OF THIS SEAT. 1 by the template 'for every input the law returns true; each argument reads behind the call as it read before'; 0 by the template 'total and deterministic' (their statements: Qxb6615056aDoorTotals.lean).
  GIVEN WITH THE SEED: the statements are not yours to turn. If you find one false, say at which input.
  Laid BY PROGRAM, IN A SANDBOX (cutbox-rows.mjs): the forced cells as the released guide's own fill.sh prints them over the translation 153dbcc1309d4bf5… (all of the seat's roots in one cut). By AI agents, Wed Nov 11 2026. No macro, syntax, notation, axiom, sorry.
-/
import Derived.Test.Qxb6615056aDoorChecked
import GoSem.Claim
import GoSem.ClaimJoined
import GoSem.ClaimMapViews
import Derived.JoinedTies
import Derived.KernelRfl
namespace Go.Proofs.Qxb6615056aDoor
/- THE CELL 'sum', in the pinned program and in every row, IS THE sha256 OF THE DUMP (.gsa) THAT Qxb6615056aDoorProg.lean LOADS. Nothing in Lean hashes anything: it is a label: what it is worth is what the hold of that sum in a sandbox is worth. -/
noncomputable def Tryd.pinned : Pinned := { name := "qxb6615056adoor", sum := "153dbcc1309d4bf5b01878e675a8bf47c45cb800e235dcc5df2bc1ab357035ef", checked := Tryd.checked }
namespace Rows
def none {H : Type} : Left H := { results := [], args := [] }

/- WHAT THE LISTED PACKAGE-LEVEL VARIABLES READ AS WHEN THE CALL BEGINS. Each datum BY PROGRAM (the guide's laid-datum.mjs) off the statement by which the dump's own 'gosem.cut.vars' lays the variable. In a bare row this is a premise. The card (Qxb6615056aDoorCards.lean) ties it to the program's text. -/
def laid_math_bits_deBruijn32tab {H : Type} : DataW H := .agg [.lit (.int .u8 0), .lit (.int .u8 1), .lit (.int .u8 28), .lit (.int .u8 2), .lit (.int .u8 29), .lit (.int .u8 14), .lit (.int .u8 24), .lit (.int .u8 3), .lit (.int .u8 30), .lit (.int .u8 22), .lit (.int .u8 20), .lit (.int .u8 15), .lit (.int .u8 25), .lit (.int .u8 17), .lit (.int .u8 4), .lit (.int .u8 8), .lit (.int .u8 31), .lit (.int .u8 27), .lit (.int .u8 13), .lit (.int .u8 23), .lit (.int .u8 21), .lit (.int .u8 19), .lit (.int .u8 16), .lit (.int .u8 7), .lit (.int .u8 26), .lit (.int .u8 12), .lit (.int .u8 18), .lit (.int .u8 6), .lit (.int .u8 11), .lit (.int .u8 5), .lit (.int .u8 10), .lit (.int .u8 9)]

/-- 'zzlaws_root_b1.FnDepthsMatchLayeredModel': WHATEVER THE INPUT: true; the input reads as it did. -/
def fnDepthsMatchLayeredModelSpec : ChangeSpec := { name := "fnDepthsMatchLayeredModel", fn := fun _ => fun
  | [d1, d2, d3, d4] => { results := [.lit (.bool true)], args := [d1, d2, d3, d4] }
  | _ => none }
def fnDepthsMatchLayeredModelRow : OpenClaim := { program := "qxb6615056adoor", sum := "153dbcc1309d4bf5b01878e675a8bf47c45cb800e235dcc5df2bc1ab357035ef", func := "example.com/tocsin/tocsin/zzlaws_root_b1.FnDepthsMatchLayeredModel", spec := "fnDepthsMatchLayeredModel", named := ["math/bits.deBruijn32tab"], apart := false, laid := [("math/bits.deBruijn32tab", laid_math_bits_deBruijn32tab)] }
def FnDepthsMatchLayeredModelSaid : Prop := fnDepthsMatchLayeredModelRow.holds Tryd.pinned (OpenSpec.ofChange fnDepthsMatchLayeredModelSpec)

/-- ITS FALSE NEIGHBOUR: 'it returns false'. Refute it at one input. -/
def fnDepthsMatchLayeredModelWrong : ChangeSpec := { name := "fnDepthsMatchLayeredModel", fn := fun _ => fun
  | [d1, d2, d3, d4] => { results := [.lit (.bool false)], args := [d1, d2, d3, d4] }
  | _ => none }
def FnDepthsMatchLayeredModelWrongFalsely : Prop := fnDepthsMatchLayeredModelRow.holds Tryd.pinned (OpenSpec.ofChange fnDepthsMatchLayeredModelWrong)

end Rows
end Go.Proofs.Qxb6615056aDoor

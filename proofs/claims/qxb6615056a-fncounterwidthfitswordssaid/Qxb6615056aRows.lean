/-
  No cell of these rows narrows 'for every input' (looked for: loops, veiled, ifaces, maps, wideKeys, modest, calm, conditions, laid).
  DERIVED. THE GIVEN ROWS OF THIS SEAT. 1 by the template 'for every input the law returns true; each argument reads behind the call as it read before'; 0 by the template 'total and deterministic' (their statements: Qxb6615056aTotals.lean).
  GIVEN WITH THE SEED: the statements are not yours to turn. If you find one false, say at which input.
  Laid BY PROGRAM, IN A SANDBOX (cutbox-rows.mjs): the forced cells as the released guide's own fill.sh prints them over the translation 9e707b13dae0f02d… (all of the seat's roots in one cut). By AI agents, Wed Nov 11 2026. No macro, syntax, notation, axiom, sorry.
-/
import Derived.Test.Qxb6615056aChecked
import GoSem.Claim
import GoSem.ClaimJoined
import GoSem.ClaimMapViews
import Derived.JoinedTies
import Derived.KernelRfl
namespace Go.Proofs.Qxb6615056a
/- THE CELL 'sum', in the pinned program and in every row, IS THE sha256 OF THE DUMP (.gsa) THAT Qxb6615056aProg.lean LOADS. Nothing in Lean hashes anything: it is a label: what it is worth is what the hold of that sum in a sandbox is worth. -/
noncomputable def Try.pinned : Pinned := { name := "qxb6615056a", sum := "9e707b13dae0f02daeb6924a2604ca9d5f61435aeb2b77994007af456de2793d", checked := Try.checked }
namespace Rows
def none {H : Type} : Left H := { results := [], args := [] }

/-- 'zzlaws_root_b1.FnCounterWidthFitsWords': WHATEVER THE INPUT: true; the input reads as it did. -/
def fnCounterWidthFitsWordsSpec : ChangeSpec := { name := "fnCounterWidthFitsWords", fn := fun _ => fun
  | [d] => { results := [.lit (.bool true)], args := [d] }
  | _ => none }
def fnCounterWidthFitsWordsRow : OpenClaim := { program := "qxb6615056a", sum := "9e707b13dae0f02daeb6924a2604ca9d5f61435aeb2b77994007af456de2793d", func := "example.com/tocsin/tocsin/zzlaws_root_b1.FnCounterWidthFitsWords", spec := "fnCounterWidthFitsWords", apart := false }
def FnCounterWidthFitsWordsSaid : Prop := fnCounterWidthFitsWordsRow.holds Try.pinned (OpenSpec.ofChange fnCounterWidthFitsWordsSpec)

/-- ITS FALSE NEIGHBOUR: 'it returns false'. Refute it at one input. -/
def fnCounterWidthFitsWordsWrong : ChangeSpec := { name := "fnCounterWidthFitsWords", fn := fun _ => fun
  | [d] => { results := [.lit (.bool false)], args := [d] }
  | _ => none }
def FnCounterWidthFitsWordsWrongFalsely : Prop := fnCounterWidthFitsWordsRow.holds Try.pinned (OpenSpec.ofChange fnCounterWidthFitsWordsWrong)

end Rows
end Go.Proofs.Qxb6615056a

/-
  No cell of these rows narrows 'for every input' (looked for: loops, veiled, ifaces, maps, wideKeys, modest, calm, conditions, laid).
  DERIVED. THE GIVEN ROWS OF THIS SEAT. 2 by the template 'for every input the law returns true; each argument reads behind the call as it read before'; 0 by the template 'total and deterministic' (their statements: Qxb6605979aTotals.lean).
  GIVEN WITH THE SEED: the statements are not yours to turn. If you find one false, say at which input.
  Laid BY PROGRAM, IN A SANDBOX (cutbox-rows.mjs): the forced cells as the released guide's own fill.sh prints them over the translation 5a567da269027714… (all of the seat's roots in one cut). By AI agents, Wed Nov 11 2026. No macro, syntax, notation, axiom, sorry.
-/
import Derived.Test.Qxb6605979aChecked
import GoSem.Claim
import GoSem.ClaimJoined
import GoSem.ClaimMapViews
import Derived.JoinedTies
import Derived.KernelRfl
namespace Go.Proofs.Qxb6605979a
/- THE CELL 'sum', in the pinned program and in every row, IS THE sha256 OF THE DUMP (.gsa) THAT Qxb6605979aProg.lean LOADS. Nothing in Lean hashes anything: it is a label: what it is worth is what the hold of that sum in a sandbox is worth. -/
noncomputable def Try.pinned : Pinned := { name := "qxb6605979a", sum := "5a567da2690277143774819651c6542a652bc05c2df8e32d6a851d96047090b4", checked := Try.checked }
namespace Rows
def none {H : Type} : Left H := { results := [], args := [] }

/-- 'zzlaws_internal_wire_b1.FnSignedQueryIsTheInfohashOrTheKeywordsAtTheirOffsets': WHATEVER THE INPUT: true; the input reads as it did. -/
def fnSignedQueryIsTheInfohashOrTheKeywordsAtTheirOffsetsSpec : ChangeSpec := { name := "fnSignedQueryIsTheInfohashOrTheKeywordsAtTheirOffsets", fn := fun _ => fun
  | [d1, d2, d3, d4, d5, d6, d7, d8, d9, d10, d11] => { results := [.lit (.bool true)], args := [d1, d2, d3, d4, d5, d6, d7, d8, d9, d10, d11] }
  | _ => none }
def fnSignedQueryIsTheInfohashOrTheKeywordsAtTheirOffsetsRow : OpenClaim := { program := "qxb6605979a", sum := "5a567da2690277143774819651c6542a652bc05c2df8e32d6a851d96047090b4", func := "example.com/veilpeer/veilpeer/zzlaws_internal_wire_b1.FnSignedQueryIsTheInfohashOrTheKeywordsAtTheirOffsets", spec := "fnSignedQueryIsTheInfohashOrTheKeywordsAtTheirOffsets", inPlace := ["internal/abi.NoEscape", "internal/bytealg.MakeNoZero"], apart := false }
def FnSignedQueryIsTheInfohashOrTheKeywordsAtTheirOffsetsSaid : Prop := fnSignedQueryIsTheInfohashOrTheKeywordsAtTheirOffsetsRow.holds Try.pinned (OpenSpec.ofChange fnSignedQueryIsTheInfohashOrTheKeywordsAtTheirOffsetsSpec)

/-- ITS FALSE NEIGHBOUR: 'it returns false'. Refute it at one input. -/
def fnSignedQueryIsTheInfohashOrTheKeywordsAtTheirOffsetsWrong : ChangeSpec := { name := "fnSignedQueryIsTheInfohashOrTheKeywordsAtTheirOffsets", fn := fun _ => fun
  | [d1, d2, d3, d4, d5, d6, d7, d8, d9, d10, d11] => { results := [.lit (.bool false)], args := [d1, d2, d3, d4, d5, d6, d7, d8, d9, d10, d11] }
  | _ => none }
def FnSignedQueryIsTheInfohashOrTheKeywordsAtTheirOffsetsWrongFalsely : Prop := fnSignedQueryIsTheInfohashOrTheKeywordsAtTheirOffsetsRow.holds Try.pinned (OpenSpec.ofChange fnSignedQueryIsTheInfohashOrTheKeywordsAtTheirOffsetsWrong)

/-- 'zzlaws_internal_wire_b1.FnSignedQuerySplitsBackIntoTheKeywordsWords': WHATEVER THE INPUT: true; the input reads as it did. -/
def fnSignedQuerySplitsBackIntoTheKeywordsWordsSpec : ChangeSpec := { name := "fnSignedQuerySplitsBackIntoTheKeywordsWords", fn := fun _ => fun
  | [d] => { results := [.lit (.bool true)], args := [d] }
  | _ => none }
def fnSignedQuerySplitsBackIntoTheKeywordsWordsRow : OpenClaim := { program := "qxb6605979a", sum := "5a567da2690277143774819651c6542a652bc05c2df8e32d6a851d96047090b4", func := "example.com/veilpeer/veilpeer/zzlaws_internal_wire_b1.FnSignedQuerySplitsBackIntoTheKeywordsWords", spec := "fnSignedQuerySplitsBackIntoTheKeywordsWords", inPlace := ["internal/abi.NoEscape", "internal/bytealg.MakeNoZero"], apart := false }
def FnSignedQuerySplitsBackIntoTheKeywordsWordsSaid : Prop := fnSignedQuerySplitsBackIntoTheKeywordsWordsRow.holds Try.pinned (OpenSpec.ofChange fnSignedQuerySplitsBackIntoTheKeywordsWordsSpec)

/-- ITS FALSE NEIGHBOUR: 'it returns false'. Refute it at one input. -/
def fnSignedQuerySplitsBackIntoTheKeywordsWordsWrong : ChangeSpec := { name := "fnSignedQuerySplitsBackIntoTheKeywordsWords", fn := fun _ => fun
  | [d] => { results := [.lit (.bool false)], args := [d] }
  | _ => none }
def FnSignedQuerySplitsBackIntoTheKeywordsWordsWrongFalsely : Prop := fnSignedQuerySplitsBackIntoTheKeywordsWordsRow.holds Try.pinned (OpenSpec.ofChange fnSignedQuerySplitsBackIntoTheKeywordsWordsWrong)

end Rows
end Go.Proofs.Qxb6605979a

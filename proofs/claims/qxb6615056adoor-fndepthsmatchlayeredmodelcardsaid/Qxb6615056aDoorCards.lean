/-
  DERIVED. GIVEN WITH THE SEED: THE CARDS: each row of Qxb6615056aDoorRows.lean that lists a variable, with what it lists TIED to the program's text (the seventh form; the later family's looks); each row that meets fmt, with fmt's text TOLD by the authors' own Lean function (tested against real Go, not proved from fmt's source: count such statements apart). THE CARD IS WHAT COUNTS. Prove the row's statement (the work); the ties are given (Qxb6615056aDoorTie.lean); close each card by the builder's one call (the guide's Derived/Test/ToyasCard.lean, 'card_holds'). Laid BY PROGRAM, IN A SANDBOX (cutbox-door.mjs). By AI agents, Wed Nov 11 2026. No macro, syntax, notation, axiom, sorry.
-/
import Derived.Test.Qxb6615056aDoorRows
import GoSem.ClaimSeven
namespace Go.Proofs.Qxb6615056aDoor
namespace Rows

/-- THE TIED CARD OF 'zzlaws_root_b1.FnDepthsMatchLayeredModel'. -/
def fnDepthsMatchLayeredModelCard : Claim7 := { stood := { row := fnDepthsMatchLayeredModelRow, standIns := [], harness := (true, "de8161ac874b90ec4a40b86ef1051d6bc40fa69b270704678222d9298333d363"), looks := false }, kinds := [], alts := [], laidByText := true, laidKinds := [.data], laidTests := true, laidLooks := .later }
def FnDepthsMatchLayeredModelCardSaid : Prop := Claim7.holds Tryd.pinned (.plain (OpenSpec.ofChange fnDepthsMatchLayeredModelSpec)) fnDepthsMatchLayeredModelCard
end Rows
end Go.Proofs.Qxb6615056aDoor

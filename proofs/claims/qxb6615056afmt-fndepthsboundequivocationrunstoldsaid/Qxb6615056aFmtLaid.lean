/-
  The library's table as the row lays it.
-/
import Derived.Test.Qxb6615056aFmtTz
import Derived.Lib.LaidTab
import Derived.LaidLaws
import Derived.LaidHandle
namespace Go.Proofs.Qxb6615056aFmt
open Go.ChangeShapes Go.WideShapes Go.ChangeAt Go.RowKit Go.Tocsin

/-- The table's name, as the row spells it. -/
def tabName : String := Rows.fnDepthsBoundEquivocationRunsRow.named.headD ""
theorem Tryf.gTab : Tryf.prog.globalNamed tabName = some 0 := by kernel_rfl
def tabZ : List Int := Lib.deBruijn32tab.map fun (n : Nat) => (n : Int)
theorem tab_laid : (Rows.laid_math_bits_deBruijn32tab : DataW Unit) = Lib.tabData .u8 tabZ := rfl

/-- What the row's condition gives the walk. -/
theorem tab_of_laid {W : World} (h : laidMetH Tryf.prog Rows.fnDepthsBoundEquivocationRunsRow.laid W) : TabAt W := by
  have h' : laidMet Tryf.prog [(tabName, Lib.tabData .u8 tabZ)] W := h
  have ht := Lib.tabIs_of_head (e := 5) (n := 32) Tryf.gTab (t := 127) (by kernel_rfl) (by kernel_rfl) Tryf.underlying5 (by kernel_rfl) (by kernel_rfl) h'
  intro i hi
  unfold Lib.TabIs at ht
  rw [World.var?_cell Tryf.gTab ht i]
  have : ∀ i : Fin 32, ((tabZ.map fun z => Value.int IntKind.u8 z).toArray)[i.val]? = some (.int .u8 (Lib.deBruijn32tab.getD i.val 0 : Nat)) := by
    intro i
    simp only [List.getElem?_toArray, tabZ, List.getElem?_map]
    have hl : i.val < Lib.deBruijn32tab.length := by have := i.isLt; simp [Lib.deBruijn32tab]
    rw [List.getElem?_eq_getElem hl]
    simp [List.getD, hl]
  exact this ⟨i, hi⟩

/-- The variable's cells laid in a world. -/
def layObj : Obj → Obj
  | .cells _ t frozen => .cells (tabZ.map fun z => Value.int .u8 z).toArray t frozen
  | o => o
def layWorld (w : World) : World := { w with heap := w.heap.modify 0 layObj }
/-- A world that meets the condition: the settled one, the variable's cells laid. -/
theorem laidWorld_met (os : Os) (args : Array Value) : laidMetH Tryf.prog Rows.fnDepthsBoundEquivocationRunsRow.laid ((layWorld (World.holding Tryf.prog os ⟨#[], #[], []⟩)).forCall (fun _ _ => 0) ⟨#[], args, []⟩).memory :=
  laidMet_of_run' 8 (by kernel_rfl) (by kernel_rfl)
end Go.Proofs.Qxb6615056aFmt

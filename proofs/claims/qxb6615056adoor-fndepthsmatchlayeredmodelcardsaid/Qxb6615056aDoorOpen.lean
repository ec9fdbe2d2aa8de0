/-
  SLICES THAT CAME IN, OPENED: their cells by an index function.
-/
import Derived.Test.Qxb6615056aDoorParts
import Derived.Deep.Grids
namespace Go.Proofs.Qxb6615056aDoor
open Go.ChangeShapes Go.WideShapes Go.ChangeAt Go.RowKit Go.Tocsin

theorem slAt_of {w : World} {x : Addr} {len : Nat} {F : Nat → Value} {N : Nat} (hN : len ≤ N) (hc : ∀ i, i < N → w.cell? (x.add i) = some (F i)) : SlAt w (some x) len F := by
  intro h0
  obtain ⟨b, off, spot⟩ := x
  have hspot : spot = none := by simpa [Addr.add] using World.cell?_spot (hc 0 (by omega))
  subst hspot
  exact ⟨b, off, rfl, fun i hi => by have := hc i (by omega); rwa [Addr.add_lit] at this⟩

section
variable {H : Type} {enc : TypeId × Value → H} {W : World} {a : Option Addr} {len cap : Nat} {d : DataW H} {p : List MemPlace}

theorem sl_ints {t e : TypeId} {k : IntKind} (ht : Tryd.prog.underlying t = some (.slice e)) (he : Tryd.prog.underlying e = some (.int k)) (hc : Tryd.prog.cellsOf e = 1)
    (h0 : DataW.Trod enc Tryd.prog W 0 (fun _ => true) true t (.slice a len cap) d p) :
    ∃ f : Nat → Int, SlAt W a len (fun i => .int k (f i)) ∧ len ≤ maxLen ∧ ∀ i, (Lit.int k (f i)).wf = true ∨ f i = 0 := by
  obtain ⟨fuel, hf⟩ := h0
  rcases open_ints ht he hc hf with ⟨hcs, _⟩ | ⟨x, l, c, zs, hcs, _, hl, hm, hz, _, hcell, hwz⟩
  · simp [Value.cells] at hcs
    obtain ⟨rfl, rfl, rfl⟩ := hcs
    exact ⟨fun _ => 0, fun h => by omega, Nat.zero_le _, fun _ => .inr rfl⟩
  · simp [Value.cells] at hcs
    obtain ⟨rfl, rfl, rfl⟩ := hcs
    refine ⟨fun i => zs.getD i 0, slAt_of (by simpa using (show len ≤ zs.length by simp at hz; omega)) hcell, by omega, fun i => ?_⟩
    by_cases hi : i < zs.length
    · left
      have : zs.getD i 0 ∈ zs := by simp [List.getD, hi]
      exact hwz _ this
    · right
      simp [List.getD, hi]

theorem sl_u8 {t e : TypeId} (ht : Tryd.prog.underlying t = some (.slice e)) (he : Tryd.prog.underlying e = some (.int .u8)) (hc : Tryd.prog.cellsOf e = 1)
    (h0 : DataW.Trod enc Tryd.prog W 0 (fun _ => true) true t (.slice a len cap) d p) :
    ∃ f : Nat → Nat, (∀ i, f i < 256) ∧ SlAt W a len (fun i => .int .u8 (f i : Nat)) ∧ len ≤ maxLen := by
  obtain ⟨f, h1, h2, h3⟩ := sl_ints ht he hc h0
  have hb : ∀ i, 0 ≤ f i ∧ f i < 256 := fun i => by
    rcases h3 i with h | h
    · have e1 : IntKind.u8.min = 0 := rfl
      have e2 : IntKind.u8.max = 255 := rfl
      simp [Lit.wf, e1, e2] at h
      omega
    · omega
  refine ⟨fun i => (f i).toNat, fun i => by have := hb i; show (f i).toNat < 256; omega, fun h => ?_, h2⟩
  obtain ⟨b, off, e, hcell⟩ := h1 h
  exact ⟨b, off, e, fun i hi => by rw [hcell i hi]; have := hb i; simp; omega⟩

theorem sl_bools {t e : TypeId} (ht : Tryd.prog.underlying t = some (.slice e)) (he : Tryd.prog.underlying e = some .bool) (hc : Tryd.prog.cellsOf e = 1)
    (h0 : DataW.Trod enc Tryd.prog W 0 (fun _ => true) true t (.slice a len cap) d p) :
    ∃ f : Nat → Bool, SlAt W a len (fun i => .bool (f i)) ∧ len ≤ maxLen := by
  obtain ⟨fuel, hf⟩ := h0
  rcases Go.Deep.open_bools ht he hc hf with ⟨hcs, _⟩ | ⟨x, l, c, B, hcs, _, hl, hm, _, hcell⟩
  · simp [Value.cells] at hcs
    obtain ⟨rfl, rfl, rfl⟩ := hcs
    exact ⟨fun _ => false, fun h => by omega, Nat.zero_le _⟩
  · simp [Value.cells] at hcs
    obtain ⟨rfl, rfl, rfl⟩ := hcs
    exact ⟨B, slAt_of hl hcell, by omega⟩
end

end Go.Proofs.Qxb6615056aDoor

/-
  What FnDepthsMatchLayeredModel makes: clones of a row of its own; the Verification in memory.
-/
import Derived.Test.Qxb6615056aDoorDom
namespace Go.Proofs.Qxb6615056aDoor
open Go.RowKit Go.Tocsin

theorem own_some {w : World} {t : TypeId} {x : Addr} {n c : Nat} {F : Nat → Value} (h : Own w t (.slice (some x) n c) n F) : ∃ b, x = ⟨b, 0, none⟩ ∧ ∀ i, i < n → w.cell? ⟨b, 0 + i, none⟩ = some (F i) := by
  have he := h.elim
  obtain ⟨h1, h2⟩ := h
  rcases h2 with ⟨e, _⟩ | ⟨g, cap, cur, e, hb, hg, rest⟩
  · cases e
  · cases e
    refine ⟨g, rfl, fun i hi => ?_⟩
    obtain ⟨a', cap', e2, hel⟩ := he
    cases e2
    obtain ⟨b, e3, _, hc⟩ := hel (by omega)
    cases e3
    rw [Nat.zero_add]
    exact hc i hi

set_option maxHeartbeats 800000 in
set_option maxRecDepth 100000 in
theorem cloneInts_none (w : World) (n c : Nat) :
    Calls Tryd.prog 13 #[.slice none n c] w fun e w' => e = .returned (.slice none 0 0) ∧ w' = w := by
  have hnil := fun w => Lib.run_eql_slice_nil (P := Tryd.prog) w 29 3 none n c 0 0 Tryd.underlying29
  go_enter Tryd.func13, Tryd.ntmps13
  go_wp2
  go_ret
  exact ⟨rfl, rfl⟩

/-- A clone of a row of the caller's own, nil where it is nil. -/
theorem cloneInts_own (a : Option Addr) (n c : Nat) (F : Nat → Value) (w : World) (h : Own w 3 (.slice a n c) n F) (hl : n ≤ 1048576) (h1 : ∀ i, (F i).oneCell' = true) :
    Calls Tryd.prog 13 #[.slice a n c] w fun e w' => ∃ a' c', e = .returned (.slice a' n c') ∧ (0 < n → ∃ g, a' = some ⟨g, 0, none⟩ ∧ w.heap.size ≤ g ∧ Row w' g 3 n F) ∧ Kp [] w w' := by
  cases a with
  | none =>
    have h0 : n = 0 := by
      by_cases e : n = 0
      · exact e
      · obtain ⟨a', c', e2, hel⟩ := h.elim
        cases e2
        obtain ⟨b, e3, _⟩ := hel (by omega)
        cases e3
    subst h0
    refine (cloneInts_none w 0 c).mono ?_
    rintro e w' ⟨rfl, rfl⟩
    exact ⟨none, 0, rfl, fun h => by omega, Kp.refl _ _⟩
  | some x =>
    obtain ⟨b, rfl, hc⟩ := own_some h
    refine (cloneInts_some b 0 n c F w hl h1 hc).mono ?_
    rintro e w' ⟨g, rfl, hg, hr, hk⟩
    exact ⟨_, _, rfl, fun _ => ⟨g, rfl, hg, hr⟩, hk⟩

/-- The Verification that is made, in memory. -/
theorem ver_made {w0 w w' : World} {tb nb wb fl n S ln C gF gK gS c6 ml' : Nat} {a' : Option Addr} {md : Int} {nx : Nat → Nat} {fb : Nat → Bool} (hT : TableAt w tb nb wb fl n S ln nx) (hTab : TabAt w) (hF : Row w gF 4 n (fun i => .bool (fb i))) (hK : Row w gK 3 (cw fb false n) (fun i => .int .i64 (nth fb false n i : Nat)))
    (hL : 0 < cw fb true n → ∃ g, a' = some ⟨g, 0, none⟩ ∧ Row w g 3 (cw fb true n) (fun i => .int .i64 (nth fb true n i : Nat)) ∧ g ≠ gS) (hSr : Row w gS 3 n (fun _ => .int .i64 0)) (hml : ml' = cw fb true n)
    (hne : gS ≠ 0 ∧ gS ≠ tb ∧ gS ≠ nb ∧ gS ≠ gF ∧ gS ≠ gK) (hk : Kp [] w0 w)
    (hw : w' = w.alloc (.cells #[.pointer (some ⟨tb, 0, none⟩), .slice (some ⟨gF, 0, none⟩) n n, .int .i64 md, .slice (some ⟨gK, 0, none⟩) (cw fb false n) (cw fb false n), .slice a' ml' c6, .int .i64 (C : Nat), .slice (some ⟨gS, 0, none⟩) n n] 54)) :
    ∃ V : VP, V.vb = w.heap.size ∧ V.sb = gS ∧ V.n = n ∧ V.s = S ∧ V.ln = ln ∧ V.C = C ∧ V.md = md ∧ V.nx = nx ∧ V.fb = fb ∧ V.m = cw fb false n ∧ V.ml = cw fb true n ∧ VerAt w'.heap.size w' V ∧ Row w' V.sb 3 n (fun _ => .int .i64 0) ∧ Kp [] w0 w' := by
  subst hml
  have hka : Kp [] w w' := by rw [hw]; exact (Kp.refl _ _).alloc _
  have hlt : w'.heap.size = w.heap.size + 1 := by rw [hw]; simp
  have hcell : ∀ (i : Nat) (v : Value), (#[.pointer (some ⟨tb, 0, none⟩), .slice (some ⟨gF, 0, none⟩) n n, .int .i64 md, .slice (some ⟨gK, 0, none⟩) (cw fb false n) (cw fb false n), .slice a' (cw fb true n) c6, .int .i64 (C : Nat), .slice (some ⟨gS, 0, none⟩) n n] : Array Value)[i]? = some v → w'.cell? ⟨w.heap.size, i, none⟩ = some v := fun i v h => by
    rw [hw]
    exact (World.cell?_alloc_at _ _ _ _ rfl).trans h
  have t0 : 0 < w.heap.size := World.block_lt_of_cell? _ _ (hTab 0 (by omega))
  have t1 : tb < w.heap.size := World.block_lt_of_cell? _ _ hT.c0
  have t2 := hT.next.lt
  have t3 := hF.lt
  have t4 := hK.lt
  have t5 := hSr.lt
  obtain ⟨lb, hlb⟩ : ∃ lb, (0 < cw fb true n → a' = some ⟨lb, 0, none⟩ ∧ Row w lb 3 (cw fb true n) (fun i => .int .i64 (nth fb true n i : Nat))) ∧ lb ≠ gS ∧ lb < w.heap.size := by
    by_cases h0 : 0 < cw fb true n
    · obtain ⟨g, e1, e2, e3⟩ := hL h0
      exact ⟨g, fun _ => ⟨e1, e2⟩, e3, e2.lt⟩
    · exact ⟨0, fun h => absurd h h0, fun e => hne.1 e.symm, t0⟩
  refine ⟨⟨w.heap.size, tb, nb, gF, gK, gS, lb, c6, n, S, ln, cw fb false n, cw fb true n, C, a', md, nx, fb⟩, rfl, rfl, rfl, rfl, rfl, rfl, rfl, rfl, rfl, rfl, rfl, ?_, hSr.kp hka (by simp), hk.trans hka (by simp)⟩
  refine ⟨hcell 0 _ rfl, hcell 1 _ rfl, hcell 2 _ rfl, hcell 3 _ rfl, hcell 4 _ rfl, hcell 5 _ rfl, hcell 6 _ rfl, hka.cell' hT.c0 (by simp), hka.cell' hT.c1 (by simp), hka.cell' hT.c2 (by simp), fun i hi => hka.cell' (hT.next.cell hi) (by simp), fun i hi => hka.cell' (hF.cell hi) (by simp), fun i hi => hka.cell' (hK.cell hi) (by simp), fun h0 => ⟨(hlb.1 h0).1, fun i hi => hka.cell' ((hlb.1 h0).2.cell hi) (by simp)⟩, hTab.kp hka (by simp), fun b hb => ?_⟩
  simp only [List.mem_cons, List.not_mem_nil, or_false] at hb
  show b < w'.heap.size ∧ b ≠ gS
  rw [hlt]
  rcases hb with rfl | rfl | rfl | rfl | rfl | rfl | rfl
  · exact ⟨by omega, fun e => hne.1 e.symm⟩
  · exact ⟨by omega, by omega⟩
  · exact ⟨by omega, fun e => hne.2.1 e.symm⟩
  · exact ⟨by omega, fun e => hne.2.2.1 e.symm⟩
  · exact ⟨by omega, fun e => hne.2.2.2.1 e.symm⟩
  · exact ⟨by omega, fun e => hne.2.2.2.2 e.symm⟩
  · exact ⟨by omega, hlb.2.1⟩

end Go.Proofs.Qxb6615056aDoor

/-
  A PROOF OF 'Rows.FnSignedQueryIsTheInfohashOrTheKeywordsAtTheirOffsetsSaid'. The frame was written by the guide's proof-skeleton.mjs for this program and turned to a slice of strings, arrays and a pointer; the walks are ours (Qxb6605979aSigNil, Qxb6605979aSigSome).
-/
import Derived.Test.Qxb6605979aRows
import Derived.Test.Qxb6605979aSigSome
import Derived.SliceStrings
import Derived.WalkKit
import Derived.ProofKit
import Derived.OpenShut
import Derived.ShutString
import Derived.ChangeOld
import Derived.Below
namespace Go.Proofs.Qxb6605979a.fnSignedQueryIsTheInfohashOrTheKeywordsAtTheirOffsets
open Go.ChangeShapes Go.WideShapes Go.ChangeAt Go.RowKit Go.Tocsin
open Go.ChangeMaps (open_string shut_string)
set_option linter.unusedVariables false

theorem own : ownKnob Try.prog.godebug = none := by kernel_rfl
theorem laidOut : laidOutB Try.prog = true := by kernel_rfl

/-- An array of bytes, read: its cells one by one. -/
theorem bytes_of {H : Type} {enc : TypeId × Value → H} {w : World} {base : Nat} {spare : Nat → Bool} {held : Bool} {fuel n : Nat} {t : TypeId} {cs : List Value} {x : DataW H × List MemPlace}
    (ht : Try.prog.underlying t = some (.array n 5)) (hn : Try.prog.cellsOf t = n) (h : DataW.trod enc Try.prog w base spare held fuel t cs = some x) : ∃ f : Nat → Int, cs = (List.range n).map fun i => .int .u8 (f i) := by
  obtain ⟨xs, m, _, _, hl, hxl, hel⟩ := DataW.trod_array ht h
  have c5 : Try.prog.cellsOf 5 = 1 := by kernel_rfl
  have hone : ∀ i, i < n → ∃ z, cs[i]? = some (.int .u8 z) := fun i hi => by
    have h1 := hel i hi
    obtain ⟨y, hy⟩ : ∃ y, xs[i]? = some y := ⟨_, List.getElem?_eq_getElem (by omega)⟩
    rw [hy, c5, Nat.mul_one] at h1
    obtain ⟨z, hz, _, _⟩ := DataW.trod_int Try.underlying5 h1
    refine ⟨z, ?_⟩
    have h2 := congrArg (·[0]?) hz
    simpa [List.getElem?_take, List.getElem?_drop] using h2
  refine ⟨fun i => match cs[i]? with | some (.int .u8 z) => z | _ => 0, ?_⟩
  apply List.ext_getElem?
  intro i
  by_cases hi : i < n
  · obtain ⟨z, hz⟩ := hone i hi
    simp [hi, hz]
  · rw [List.getElem?_eq_none (by omega), List.getElem?_eq_none (by simp; omega)]

theorem open_row {H : Type} {enc : TypeId × Value → H} {w : World} {base b0 : Nat} {spare : Nat → Bool} {held : Bool} {n : Nat} {t : TypeId} {v : Value} {d : DataW H} {p : List MemPlace} {r : Reach}
    (ht : Try.prog.underlying t = some (.array n 5)) (hn : Try.prog.cellsOf t = n) (hval : Value.okWide Try.prog w r b0 t v) (h : DataW.Trod enc Try.prog w base spare held t v d p) : ∃ R, v = .agg R ∧ R.size = n ∧ Ones R := by
  simp only [Value.okWide, ht] at hval
  obtain ⟨R, rfl, hs, _⟩ := hval
  obtain ⟨fuel, hf⟩ := h
  obtain ⟨f, hc⟩ := bytes_of ht hn hf
  refine ⟨R, rfl, hs.trans hn, fun u hu => ?_⟩
  have : u ∈ (Value.agg R).cells.toList := by simpa [Value.cells] using hu
  rw [hc] at this
  obtain ⟨_, _, rfl⟩ := List.mem_map.1 this
  rfl

/-! ### THE ROW's STEP: WRITTEN OUT: LEAVE IT -/
set_option maxRecDepth 100000 in
theorem lifted (os : Os) (started : os.Started) (H : Type) (enc : TypeId × Value → H) :
    ReturnsInHanded {} Try.checked os 3 .any (Rows.fnSignedQueryIsTheInfohashOrTheKeywordsAtTheirOffsetsSpec.pre6 enc Try.prog Try.f3 Rows.fnSignedQueryIsTheInfohashOrTheKeywordsAtTheirOffsetsRow.domain false) (Rows.fnSignedQueryIsTheInfohashOrTheKeywordsAtTheirOffsetsSpec.post enc Try.prog Try.f3 false true false false) := by
  refine returnsInHanded_of_change (C := Try.checked) own started (by kernel_rfl) Try.func3
    (ChangeSpec.witness6 (enc := enc) (C := Try.checked) false ⟨#[], #[.string ByteArray.empty, .int .i64 0, .string ByteArray.empty, .bool false, .slice none 0 0, .pointer none, .agg (Array.replicate 391 (.int .u8 0)), .bool false, .agg (Array.replicate 64 (.int .u8 0)), .agg (Array.replicate 64 (.int .u8 0)), .int .i64 0], []⟩ 8 (by kernel_rfl) (by kernel_rfl) (by kernel_rfl) (by kernel_rfl)) ?_
  intro W base args ds gs before hval0 hW hcnd _
  have hval : ∀ (j : Nat) t v, Try.f3.params[j]? = some t → args[j]? = some v → Value.okWide Try.prog W .any base t v := hval0
  have hW' := hW
  obtain ⟨p, q, hA0, hV, rfl, hfz, hnd⟩ := hW
  have hA : DataW.TrodAll enc Try.prog W 0 (fun _ => true) true Try.f3.params.toList args.toList ds p := hA0
  rw [Try.params3] at hA hval
  obtain ⟨v0, vs0, d0, ds0, p0, q0, hargs, rfl, rfl, h0, r0⟩ := trodAll_cons hA
  obtain ⟨v1, vs1, d1, ds1, p1, q1, rfl, rfl, rfl, h1, r1⟩ := trodAll_cons r0
  obtain ⟨v2, vs2, d2, ds2, p2, q2, rfl, rfl, rfl, h2, r2⟩ := trodAll_cons r1
  obtain ⟨v3, vs3, d3, ds3, p3, q3, rfl, rfl, rfl, h3, r3⟩ := trodAll_cons r2
  obtain ⟨v4, vs4, d4, ds4, p4, q4, rfl, rfl, rfl, h4, r4⟩ := trodAll_cons r3
  obtain ⟨v5, vs5, d5, ds5, p5, q5, rfl, rfl, rfl, h5, r5⟩ := trodAll_cons r4
  obtain ⟨v6, vs6, d6, ds6, p6, q6, rfl, rfl, rfl, h6, r6⟩ := trodAll_cons r5
  obtain ⟨v7, vs7, d7, ds7, p7, q7, rfl, rfl, rfl, h7, r7⟩ := trodAll_cons r6
  obtain ⟨v8, vs8, d8, ds8, p8, q8, rfl, rfl, rfl, h8, r8⟩ := trodAll_cons r7
  obtain ⟨v9, vs9, d9, ds9, p9, q9, rfl, rfl, rfl, h9, r9⟩ := trodAll_cons r8
  obtain ⟨v10, vs10, d10, ds10, p10, q10, rfl, rfl, rfl, h10, r10⟩ := trodAll_cons r9
  obtain ⟨rfl, rfl, rfl⟩ := trodAll_nil r10
  obtain rfl : args = #[v0, v1, v2, v3, v4, v5, v6, v7, v8, v9, v10] := by cases args; simp_all
  obtain ⟨rfl, rfl⟩ := trodVars_none hV
  obtain ⟨a0, rfl, rfl, rfl, w0⟩ := open_string Try.underlying9 (hval 0 9 v0 rfl rfl) h0
  obtain ⟨a1, rfl, rfl, rfl, w1⟩ := open_int Try.underlying3 (hval 1 3 v1 rfl rfl) h1
  obtain ⟨a2, rfl, rfl, rfl, w2⟩ := open_string Try.underlying9 (hval 2 9 v2 rfl rfl) h2
  obtain ⟨a3, rfl, rfl, rfl⟩ := open_bool Try.underlying4 (hval 3 4 v3 rfl rfl) h3
  obtain ⟨a4, len4, cap4, rfl⟩ := okWide_slice Try.underlying22 (hval 4 22 v4 rfl rfl)
  have k4 := h4
  have lt4 : ∀ x ∈ p4, x.block < W.heap.size := by obtain ⟨m, hm⟩ := k4; exact DataW.trod_lt m _ _ _ hm
  obtain ⟨ss, hS, hml, hnil⟩ : ∃ ss : Nat → ByteArray, StrAt W a4 len4 ss ∧ len4 ≤ maxLen ∧ (a4 = none → len4 = 0 ∧ cap4 = 0) := by
    obtain ⟨fuel, hf⟩ := h4
    rcases open_strings Try.underlying22 Try.underlying9 (by kernel_rfl) hf with ⟨hcs, _⟩ | ⟨x, l, c, zs, hcs, _, hl, hm, hz, _, hcell, _⟩
    · simp [Value.cells] at hcs
      obtain ⟨rfl, rfl, rfl⟩ := hcs
      exact ⟨fun _ => ByteArray.empty, fun h => by omega, Nat.zero_le _, fun _ => ⟨rfl, rfl⟩⟩
    · simp [Value.cells] at hcs
      obtain ⟨rfl, rfl, rfl⟩ := hcs
      refine ⟨fun i => zs.getD i ByteArray.empty, fun hp => ?_, by omega, fun h => by cases h⟩
      obtain ⟨b, off, spot⟩ := x
      have hlz : len4 ≤ zs.length := by simp at hz; omega
      have hspot : spot = none := by simpa [Addr.add] using World.cell?_spot (hcell 0 (by omega))
      subst hspot
      exact ⟨b, off, rfl, fun i hi => by have := hcell i (by omega); rwa [Addr.add_lit] at this⟩
  have k5 := h5
  have lt5 : ∀ x ∈ p5, x.block < W.heap.size := by obtain ⟨m, hm⟩ := k5; exact DataW.trod_lt m _ _ _ hm
  have o5 : v5 = .pointer none ∨ ∃ ib io, ∃ x : Nat → Int, v5 = .pointer (some ⟨ib, io, none⟩) ∧ W.rangeAt ib io ((List.range 32).map fun i => .int .u8 (x i)) := by
    have c29 : Try.prog.cellsOf 29 = 32 := by kernel_rfl
    rcases open_ptr Try.underlying23 (by rw [c29]; omega) (hval 5 23 v5 rfl rfl) h5 with ⟨rfl, _⟩ | ⟨ib, io, cs, y, fuel, rfl, _, _, hl, hcell, hy⟩
    · exact .inl rfl
    · obtain ⟨f, hf⟩ := bytes_of Try.underlying29 c29 hy
      refine .inr ⟨ib, io, f, rfl, fun j v hj => ?_⟩
      rw [← hf] at hj
      have hjl : j < 32 := by have := (List.getElem?_eq_some_iff.1 hj).1; omega
      rw [hcell j (by omega), hj]
  have k6 := h6
  have lt6 : ∀ x ∈ p6, x.block < W.heap.size := by obtain ⟨m, hm⟩ := k6; exact DataW.trod_lt m _ _ _ hm
  obtain ⟨R6, rfl, s6, o6⟩ := open_row Try.underlying24 (show Try.prog.cellsOf 24 = 391 by kernel_rfl) (hval 6 24 v6 rfl rfl) h6
  obtain ⟨a7, rfl, rfl, rfl⟩ := open_bool Try.underlying4 (hval 7 4 v7 rfl rfl) h7
  have k8 := h8
  have lt8 : ∀ x ∈ p8, x.block < W.heap.size := by obtain ⟨m, hm⟩ := k8; exact DataW.trod_lt m _ _ _ hm
  obtain ⟨R8, rfl, s8, o8⟩ := open_row Try.underlying25 (show Try.prog.cellsOf 25 = 64 by kernel_rfl) (hval 8 25 v8 rfl rfl) h8
  have k9 := h9
  have lt9 : ∀ x ∈ p9, x.block < W.heap.size := by obtain ⟨m, hm⟩ := k9; exact DataW.trod_lt m _ _ _ hm
  obtain ⟨R9, rfl, s9, o9⟩ := open_row Try.underlying25 (show Try.prog.cellsOf 25 = 64 by kernel_rfl) (hval 9 25 v9 rfl rfl) h9
  obtain ⟨a10, rfl, rfl, rfl, w10⟩ := open_int Try.underlying2 (hval 10 2 v10 rfl rfl) h10
  clear hA0 hval0
  have hwalk : Calls Try.prog 3 #[.string a0, .int .i64 a1, .string a2, .bool a3, .slice a4 len4 cap4, v5, .agg R6, .bool a7, .agg R8, .agg R9, .int .i64 a10] W fun e w' => e = .returned (.bool true) ∧ Kp [] W w' := by
    rcases o5 with rfl | ⟨ib, io, x, rfl, hx⟩
    · exact sig_nil a0 a2 a1 a10 a3 a7 R6 R8 R9 s6 s8 s9 o6 o8 o9 a4 len4 cap4 ss W hml hnil hS
    · exact sig_some W a0 a2 a1 a10 a3 a7 R6 R8 R9 s6 s8 s9 o6 o8 o9 ib io x hx a4 len4 cap4 ss hml hnil hS
  refine hwalk.mono fun e W' ⟨he, hkp⟩ => ?_
  have bel : Below W.heap.size W W' := hkp.below (Nat.le_refl _) (by simp)
  subst he
  exact ⟨_, rfl, _, _, _, [], _, [], hW', trodAll_mk1 (shut_bool Try.underlying4 _), (trodAll_cons_mk (shut_string Try.underlying9 w0) (trodAll_cons_mk (shut_int Try.underlying3 w1) (trodAll_cons_mk (shut_string Try.underlying9 w2) (trodAll_cons_mk (shut_bool Try.underlying4 _) (trodAll_cons_mk (Below.trod laidOut (by kernel_rfl) (of_decide_eq_true (by kernel_rfl)) k4 bel lt4) (trodAll_cons_mk (Below.trod laidOut (by kernel_rfl) (of_decide_eq_true (by kernel_rfl)) k5 bel lt5) (trodAll_cons_mk (Below.trod laidOut (by kernel_rfl) (of_decide_eq_true (by kernel_rfl)) k6 bel lt6) (trodAll_cons_mk (shut_bool Try.underlying4 _) (trodAll_cons_mk (Below.trod laidOut (by kernel_rfl) (of_decide_eq_true (by kernel_rfl)) k8 bel lt8) (trodAll_cons_mk (Below.trod laidOut (by kernel_rfl) (of_decide_eq_true (by kernel_rfl)) k9 bel lt9) (trodAll_cons_mk (shut_int Try.underlying2 w10) trodAll_mk0))))))))))), rfl, bel.frame _, fun h => by cases h⟩

theorem over : Rows.fnSignedQueryIsTheInfohashOrTheKeywordsAtTheirOffsetsRow.holds Try.pinned (OpenSpec.ofChange Rows.fnSignedQueryIsTheInfohashOrTheKeywordsAtTheirOffsetsSpec) :=
  OpenClaim.holds_of_wide 3 Try.f3 rfl rfl rfl rfl rfl rfl rfl ⟨rfl, rfl, rfl, rfl, rfl⟩ rfl rfl rfl rfl rfl (by kernel_rfl) Try.func3 (by kernel_rfl)
    (of_decide_eq_true (by kernel_rfl)) (by unfold Func.isWrapper; first | (rw [if_pos (by decide +kernel)]; kernel_rfl) | (rw [if_neg (by decide +kernel)]; exact ⟨rfl, rfl⟩))
    (fun os started H enc _ => lifted os started H enc)

/-- ████ THE STATEMENT ████ -/
theorem proved : Rows.FnSignedQueryIsTheInfohashOrTheKeywordsAtTheirOffsetsSaid := over
end Go.Proofs.Qxb6605979a.fnSignedQueryIsTheInfohashOrTheKeywordsAtTheirOffsets

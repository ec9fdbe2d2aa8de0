/-
  A PROOF OF 'Rows.FnDepthsMatchLayeredModelCardSaid': the frame: from the walk to the row, and to the tied card. (After the guide's ToyasProofs.lean and ToyasCard.lean, turned to this program.)
-/
import Derived.Test.Qxb6615056aDoorWalk
import Derived.Test.Qxb6615056aDoorLaid
import Derived.Test.Qxb6615056aDoorOpen
import Derived.Test.Qxb6615056aDoorCards
import Derived.Test.Qxb6615056aDoorTie
import Derived.ChangeSame
import Derived.ChangeVars
import Derived.JoinedOf
import Derived.RowKit
import Derived.RowKitTokens
import Derived.LaidLaws
import Derived.LaidHandle
import Derived.Stop.Joined
import Derived.SevenTiedAt
import Derived.OpenShut
namespace Go.Proofs.Qxb6615056aDoor.fnDepthsMatchLayeredModel
open Go.ChangeShapes Go.WideShapes Go.ChangeAt Go.RowKit Go.Tocsin
set_option linter.unusedVariables false

theorem own : ownKnob Tryd.prog.godebug = none := by kernel_rfl
theorem laidOut : laidOutB Tryd.prog = true := by kernel_rfl

set_option maxRecDepth 100000 in
theorem lifted (os : Os) (started : os.Started) (H : Type) (enc : TypeId × Value → H) :
    ReturnsInHanded {} Tryd.checked os 3 .any (fun w args => (Rows.fnDepthsMatchLayeredModelSpec.pre enc Tryd.prog Tryd.f3 [] false w args ∧ laidMetH Tryd.prog Rows.fnDepthsMatchLayeredModelRow.laid w) ∧ sizedMet enc Tryd.prog Tryd.f3 (OpenSpec.ofChange Rows.fnDepthsMatchLayeredModelSpec) false w args)
      (Rows.fnDepthsMatchLayeredModelSpec.post enc Tryd.prog Tryd.f3 false true false false) := by
  refine returnsInHanded_of_change_and (C := Tryd.checked) (X := fun w _ => laidMetH Tryd.prog Rows.fnDepthsMatchLayeredModelRow.laid w) (fun _ _ _ hh h => h.of_heap hh) own started (by kernel_rfl) Tryd.func3
    (ChangeSpec.witness_at (enc := enc) (C := Tryd.checked) (os := os) (X := fun w _ => laidMetH Tryd.prog Rows.fnDepthsMatchLayeredModelRow.laid w) false (layWorld (World.holding Tryd.prog os ⟨#[], #[], []⟩)) #[.int .i64 0, .slice none 0 0, .slice none 0 0, .int .i64 0] 8 rfl (by kernel_rfl) (by kernel_rfl) (by kernel_rfl) (by kernel_rfl) (by kernel_rfl) (laidWorld_met os _)) ?_
  intro W base args ds gs before hval0 hW _ _ hL _
  have hval : ∀ (j : Nat) t v, Tryd.f3.params[j]? = some t → args[j]? = some v → Value.okWide Tryd.prog W .any base t v := hval0
  have hW' := hW
  obtain ⟨p, q, hA0, hV, rfl, hfz, hnd⟩ := hW
  have hA : DataW.TrodAll enc Tryd.prog W 0 (fun _ => true) true Tryd.f3.params.toList args.toList ds p := hA0
  rw [Tryd.params3] at hA hval
  obtain ⟨v0, vs0, d0, ds0, p0, q0, hargs, rfl, rfl, h0, r0⟩ := trodAll_cons hA
  obtain ⟨v1, vs1, d1, ds1, p1, q1, rfl, rfl, rfl, h1, r1⟩ := trodAll_cons r0
  obtain ⟨v2, vs2, d2, ds2, p2, q2, rfl, rfl, rfl, h2, r2⟩ := trodAll_cons r1
  obtain ⟨v3, vs3, d3, ds3, p3, q3, rfl, rfl, rfl, h3, r3⟩ := trodAll_cons r2
  obtain ⟨rfl, rfl, rfl⟩ := trodAll_nil r3
  obtain rfl : args = #[v0, v1, v2, v3] := by cases args; simp_all
  obtain ⟨rfl, rfl⟩ := trodVars_none hV
  obtain ⟨a0, rfl, rfl, rfl, w0⟩ := open_int Tryd.underlying3 (hval 0 3 v0 rfl rfl) h0
  obtain ⟨a1, len1, cap1, rfl⟩ := okWide_slice Tryd.underlying22 (hval 1 22 v1 rfl rfl)
  have k1 := h1
  have lt1 : ∀ x ∈ p1, x.block < W.heap.size := by obtain ⟨m, hm⟩ := k1; exact DataW.trod_lt m _ _ _ hm
  obtain ⟨z1, b1, w1, l1⟩ := sl_u8 Tryd.underlying22 Tryd.underlying5 (by kernel_rfl) h1
  obtain ⟨a2, len2, cap2, rfl⟩ := okWide_slice Tryd.underlying23 (hval 2 23 v2 rfl rfl)
  have k2 := h2
  have lt2 : ∀ x ∈ p2, x.block < W.heap.size := by obtain ⟨m, hm⟩ := k2; exact DataW.trod_lt m _ _ _ hm
  obtain ⟨z2, w2, l2⟩ := sl_bools Tryd.underlying23 Tryd.underlying4 (by kernel_rfl) h2
  obtain ⟨a3, rfl, rfl, rfl, w3⟩ := open_int Tryd.underlying3 (hval 3 3 v3 rfl rfl) h3
  clear hA0 hval0
  refine (match_walk a0 a1 a2 len1 cap1 len2 cap2 z1 z2 a3 W l1 l2 b1 w1 w2 (tab_of_laid hL)).mono fun e W' ⟨he, bel⟩ => ?_
  subst he
  exact ⟨_, rfl, _, _, _, [], _, [], hW', trodAll_mk1 (shut_bool Tryd.underlying4 _), (trodAll_cons_mk (shut_int Tryd.underlying3 w0) (trodAll_cons_mk (Below.trod laidOut (by kernel_rfl) (of_decide_eq_true (by kernel_rfl)) k1 bel lt1) (trodAll_cons_mk (Below.trod laidOut (by kernel_rfl) (of_decide_eq_true (by kernel_rfl)) k2 bel lt2) (trodAll_cons_mk (shut_int Tryd.underlying3 w3) trodAll_mk0)))), rfl, bel.frame _, fun h => by cases h⟩

theorem row_holds : Rows.FnDepthsMatchLayeredModelSaid :=
  OpenClaim.holds_of_wide 3 Tryd.f3 rfl rfl rfl rfl rfl rfl rfl ⟨rfl, rfl, rfl, rfl, rfl⟩ rfl rfl rfl rfl rfl (by kernel_rfl) Tryd.func3 (by kernel_rfl)
    (of_decide_eq_true (by kernel_rfl)) (by unfold Func.isWrapper; rw [if_neg (of_decide_eq_false (by kernel_rfl))]; exact ⟨rfl, rfl⟩)
    (fun os started H enc _ => lifted os started H enc)

theorem proved : Rows.FnDepthsMatchLayeredModelCardSaid :=
  Claim7.holds_tied_plain_at .later [] [.data] true (true, "de8161ac874b90ec4a40b86ef1051d6bc40fa69b270704678222d9298333d363") false
    row_holds (fun _ h => by cases h) (by kernel_rfl) (fun _ h => by cases h) fnDepthsMatchLayeredModel_row_tie rfl ⟨rfl, rfl⟩ (by kernel_rfl) rfl
    (fun f fn hf hfn => by
      obtain rfl : f = 3 := Option.some.inj ((show Tryd.prog.funcNamed Rows.fnDepthsMatchLayeredModelRow.func = some 3 by kernel_rfl).symm.trans hf) |>.symm
      obtain rfl : fn = Tryd.f3 := (Option.some.inj (Tryd.func3.symm.trans hfn)).symm
      exact ⟨by kernel_rfl, fun j t ht => by
        rw [Tryd.params3] at ht
        have h3 : t = 3 ∨ t = 22 ∨ t = 23 := by
          rcases j with _ | _ | _ | _ | j
          · exact .inl (by simpa using ht.symm)
          · exact .inr (.inl (by simpa using ht.symm))
          · exact .inr (.inr (by simpa using ht.symm))
          · exact .inl (by simpa using ht.symm)
          · simp at ht
        rcases h3 with rfl | rfl | rfl
        · exact (show Tryd.prog.wantsStandIn 3 = false by kernel_rfl)
        · exact (show Tryd.prog.wantsStandIn 22 = false by kernel_rfl)
        · exact (show Tryd.prog.wantsStandIn 23 = false by kernel_rfl)⟩)
    (by kernel_rfl)
end Go.Proofs.Qxb6615056aDoor.fnDepthsMatchLayeredModel

/-
  THE WALK OF FnSignedQuerySplitsBackIntoTheKeywordsWords (4).
-/
import Derived.Test.Qxb6605979aQuery
import Derived.Great.BuildSlice
namespace Go.Proofs.Qxb6605979a
open Go.RowKit Go.Tocsin Go.Wire

theorem copy_zero (x : Addr) (g cap : Nat) (w : World) : (Builtin.copy_ #[22, 22] 3 #[.slice (some ⟨g, 0, none⟩) 0 0, .slice (some x) 0 cap]).run Try.prog w = .ok (.int .i64 0) w := by
  simp [Builtin.copy_, run_underlying Try.underlying22, Builtin.lenOf, Builtin.firstCells, loadCells, loadCellsFrom, storeCells, goInt]

set_option maxHeartbeats 800000 in
set_option maxRecDepth 100000 in
theorem cloneStrings_zero (x : Addr) (cap : Nat) (w : World) :
    Calls Try.prog 7 #[.slice (some x) 0 cap] w fun e w' => ∃ g, e = .returned (.slice (some ⟨g, 0, none⟩) 0 0) ∧ Kp [] w w' := by
  obtain ⟨i0, hi, hz0, hz1, hz2⟩ := info_parts Try.info9
  have hnil := fun w => Lib.run_eql_slice_nil (P := Try.prog) w 22 9 (some x) 0 cap 0 0 Try.underlying22
  have hcp := fun (g : Nat) (w : World) => copy_zero x g cap w
  go_enter Try.func7, Try.ntmps7
  go_wp2_with (first
    | (at_make; refine wpList_make_row _ rfl _ _ 22 rfl 9 i0 (.string ⟨#[]⟩) 1 Try.underlying22 hi hz0 hz1 _ _ _ _ 0 rfl rfl rfl rfl (by rw [hz2]; omega) (by unfold maxLen; omega) (fun _ => .string ⟨#[]⟩) (by rw [Nat.mul_one]; exact madeCells_one _ _) ?_; intro w1 hr1 hk1 hs1))
  go_ret
  exact ⟨_, rfl, hk1⟩

theorem StrAt.kp {w w' : World} {a : Option Addr} {n : Nat} {ss : Nat → ByteArray} (h : StrAt w a n ss) (k : Kp [] w w') : StrAt w' a n ss := by
  intro hn
  obtain ⟨b, off, e, hc⟩ := h hn
  exact ⟨b, off, e, fun i hi => k.cell' (hc i hi) (by simp)⟩

theorem clone_calls (a : Option Addr) (n c : Nat) (ss : Nat → ByteArray) (w : World) (hn : n ≤ 65536) (ha : a = none → n = 0 ∧ c = 0) (hc : StrAt w a n ss) :
    Calls Try.prog 7 #[.slice a n c] w fun e w' => ∃ ka kc, e = .returned (.slice ka n kc) ∧ n ≤ kc ∧ StrAt w' ka n ss ∧ Kp [] w w' := by
  cases a with
  | none =>
    obtain ⟨rfl, rfl⟩ := ha rfl
    refine (cloneStrings_nil w).mono ?_
    rintro e w' ⟨rfl, rfl⟩
    exact ⟨none, 0, rfl, Nat.le_refl _, fun h => by omega, Kp.refl _ _⟩
  | some x =>
    by_cases h0 : n = 0
    · subst h0
      refine (cloneStrings_zero x c w).mono ?_
      rintro e w' ⟨g, rfl, hk⟩
      exact ⟨_, 0, rfl, Nat.le_refl _, fun h => by omega, hk⟩
    · obtain ⟨b, off, e, hcell⟩ := hc (by omega)
      cases e
      refine (cloneStrings_some b off n c (fun i => .string (ss i)) w (by omega) (fun _ => rfl) hcell).mono ?_
      rintro e w' ⟨g, rfl, hg, hr, hk⟩
      exact ⟨_, n, rfl, Nat.le_refl _, fun _ => ⟨g, 0, rfl, fun i hi => by rw [Nat.zero_add]; exact hr.cell hi⟩, hk⟩

theorem split_joined (ss : Nat → ByteArray) (n : Nat) (h : 0 < n) : splitL (joined ss n) = ((List.range n).map fun i => toL (ss i)).flatMap splitL := by
  unfold joined
  cases hl : (List.range n).map fun i => toL (ss i) with
  | nil => simp at hl; omega
  | cons x r => exact split_join x r
theorem toL_inj {a b : ByteArray} (h : toL a = toL b) : a = b := ByteArray.ext (Array.toList_inj.1 h)
theorem toLs_inj {p q : List ByteArray} (h : p.map toL = q.map toL) : p = q := (List.map_inj_right (fun _ _ => toL_inj)).1 h
theorem toL_mk (l : List UInt8) : toL ⟨l.toArray⟩ = l := by simp [toL]
/-- A slice that is owned, its cells one by one. -/
theorem own_cells {w : World} {a : Option Addr} {c : Nat} {p : List ByteArray} (h : OwnL w 9 (.slice a p.length c) (p.map Value.string)) (h0 : 0 < p.length) : ∃ b, a = some ⟨b, 0, none⟩ ∧ b ∈ blks (.slice a p.length c) ∧ ∀ i x, p[i]? = some x → w.cell? ⟨b, i, none⟩ = some (.string x) := by
  obtain ⟨a', cap, e, hs, _⟩ := h.elim
  obtain ⟨b, rfl, hb, hc⟩ := hs (by simpa using h0)
  rw [List.length_map] at e
  cases e
  refine ⟨b, rfl, by simp [blks, Value.ownBlock], fun i x hx => hc i _ (by simp [hx])⟩

set_option maxHeartbeats 1600000 in
set_option maxRecDepth 100000 in
theorem split_walk (a : Option Addr) (n c : Nat) (ss : Nat → ByteArray) (w : World) (hn : n ≤ maxLen) (ha : a = none → n = 0 ∧ c = 0) (hc : StrAt w a n ss) :
    Calls Try.prog 4 #[.slice a n c] w fun e w' => e = .returned (.bool true) ∧ Kp [] w w' := by
  have HZ := hid (zzBytes9 a n c ss w hn hc)
  have HC := hid hc
  have HA := hid ha
  clear hc ha
  unfold maxLen at hn
  by_cases hbad : ¬ (n + wb ss n ≤ 1048576)
  · go_enter Try.func4, Try.ntmps4
    go_wp2_with (go_at_call 9; refine HZ.out.mono ?_; rintro e w' ⟨⟨β, rfl, hβ⟩, rfl⟩; have hβ' : β = false := by { cases β with | false => rfl | true => exact absurd (hβ rfl) hbad }; subst hβ'; clear hβ)
    go_ret
    exact ⟨rfl, Kp.refl _ _⟩
  have hok : n + wb ss n ≤ 1048576 := by omega
  clear hbad hn
  by_cases hbig : (65536 : Int) < (n : Int)
  · go_enter Try.func4, Try.ntmps4
    go_wp2_with (go_at_call 9; refine HZ.out.mono ?_; rintro e w' ⟨⟨β, rfl, hβ⟩, rfl⟩; clear hβ; cases β)
    all_goals go_ret
    all_goals exact ⟨rfl, Kp.refl _ _⟩
  have hn6 : n ≤ 65536 := by omega
  have HW := hid (wordBytes_calls a n c ss w (by omega) (by omega) HC.out)
  by_cases hbig2 : (1048576 : Int) < 16 * (n : Int) + (wb ss n : Int)
  · go_enter Try.func4, Try.ntmps4
    go_wp2_with (first
      | (go_at_call 9; refine HZ.out.mono ?_; rintro e w' ⟨⟨β, rfl, hβ⟩, rfl⟩; clear hβ; cases β)
      | (go_at_call 6; refine HW.out.mono ?_; rintro e w' ⟨rfl, rfl⟩))
    all_goals go_ret
    all_goals exact ⟨rfl, Kp.refl _ _⟩
  have HCl := hid (clone_calls a n c ss w hn6 HA.out HC.out)
  have hbw := joined_length ss n
  have hjs : (⟨(joined ss n).toArray⟩ : ByteArray).size = (joined ss n).length := by simp [ByteArray.size]
  obtain ⟨J, hJ⟩ : ∃ J : ByteArray, J = ⟨(joined ss n).toArray⟩ := ⟨_, rfl⟩
  have hJs : J.size ≤ 1048576 := by rw [hJ, hjs]; omega
  have HJ := hid hJ
  clear hJ hjs hbw
  go_enter Try.func4, Try.ntmps4
  go_wp2_with (first
    | (go_at_call 9; refine HZ.out.mono ?_; rintro e w' ⟨⟨β, rfl, hβ⟩, rfl⟩; clear hβ; cases β; (iterate 1 go_wp2_with fail); go_ret; exact ⟨rfl, Kp.refl _ _⟩)
    | (go_at_call 6; refine HW.out.mono ?_; rintro e w' ⟨rfl, rfl⟩)
    | (go_at_call 7; refine HCl.out.mono ?_; rintro e w1 ⟨ka, kc, rfl, hkc, hS, hK1⟩; have HS := hid hS; have HK1 := hid hK1; clear hS hK1; obtain ⟨A, hbd, hA, h4, h5⟩ := build_said ka n kc; have HBD := hid hbd; have HBF := hid (And.intro hA (And.intro h4 h5)); clear hbd hA h4 h5)
    | (refine wpList_built1 rfl 39 3 (.tmp 22) rfl (.slice ka n kc) rfl A HBD.out ?_)
    | (go_at_call 8; refine (ZZSignedQuery_calls A ⟨(joined ss n).toArray⟩ w1 HBF.out.1 (signedQuery_calls A ka n kc ss _ HBF.out.2.1 HBF.out.2.2 hkc hok (HS.out.kp ((Kp.refl [] w1).alloc _)))).mono ?_; rw [← HJ.out]; rintro e w2 ⟨g, gc, rfl, hg, hgc, hby, HK2⟩; have hcv := Lib.run_convert_whole (P := Try.prog) w2 40 5 9 Try.underlying40 Try.underlying5 Try.underlying9 g 0 J hby.out gc; clear hby)
    | (go_at_call 10; refine (splitSpaces_calls J w2 hJs).mono ?_; rintro e w3 ⟨pa, pc, pcs, rfl, HO3, HP3, HF3, HK3⟩; replace HO3 := hid HO3; replace HP3 := hid HP3; replace HF3 := hid HF3; replace HK3 := hid HK3))
  · have h0 : n = 0 := by have h := ‹((n : Int) == 0) = true›; simp at h; exact h
    have e : pcs = [⟨#[]⟩] := by
      apply toLs_inj
      rw [HP3.out, HJ.out, h0]
      rfl
    subst e
    obtain ⟨b1, rfl, hb1, hc1⟩ := own_cells HO3.out (by simp)
    have HC1 := hid hc1
    clear hc1
    refine (sameStrings_calls b1 w3.heap.size pc 1 [⟨#[]⟩] _ (by simp) (fun i x hx => ((Kp.refl [] w3).alloc _).cell' (HC1.out i x hx) (by simp)) (fun i x hx => ?_)).mono ?_
    · match i, hx with
      | 0, hx =>
        simp at hx
        subst hx
        simp
    rintro e w4 ⟨rfl, q, rfl⟩
    go_wp2
    go_ret
    exact ⟨rfl, (((HK1.out.trans HK2.out (by simp)).trans HK3.out (by simp)).alloc _).drewN q⟩
  · have h0 : 0 < n := by have h := ‹((n : Int) == 0) = false›; simp at h; omega
    obtain ⟨i0, hi, hz0, hz1, hz2⟩ := info_parts Try.info9
    obtain ⟨kb, ko, rfl, hkc3⟩ := (HS.out.kp (HK2.out.trans HK3.out (by simp))) h0
    have HKC := hid hkc3
    clear hkc3
    generalize decide ((65536 : Int) < (n : Int)) = β1
    generalize decide ((1048576 : Int) < 16 * (n : Int) + (wb ss n : Int)) = β2
    generalize ((n : Int) == 0) = β3
    go_loopw [5, 6] (fun o i wr => ∃ (a : Option Addr) (c k : Nat) (ws : List ByteArray), k ≤ n ∧ i = .int .i64 k ∧ o = .slice a ws.length c ∧ ws.length ≤ wb ss k + k ∧ OwnL wr 9 (.slice a ws.length c) (ws.map Value.string) ∧ Hid (ws.map toL = ((List.range k).map fun i => toL (ss i)).flatMap splitL) ∧ (∀ k ∈ blks (.slice a ws.length c), w3.heap.size ≤ k) ∧ Kp [] w3 wr) (fun _ i _ => n - (intOf i).toNat)
    case atStart => exact ⟨none, 0, 0, [], by omega, rfl, rfl, by simp, OwnL.nil _ _, by simp [Hid], by simp [blks, Value.ownBlock], Kp.refl _ _⟩
    case round =>
      obtain ⟨wa, wc, k, ws, hk, rfl, rfl, hwl, ho, HT, hbk, hkp⟩ := hrel
      have HO := hid ho
      have HB := hid hbk
      have HK := hid hkp
      clear ho hbk hkp
      by_cases hlt : k < n
      · have hck := HK.out.cell' (HKC.out k hlt) (by simp)
        have hb1 := wb_mono ss (show k + 1 ≤ n by omega)
        have hb2 : wb ss (k + 1) = wb ss k + (ss k).size := rfl
        have HSP := hid (splitSpaces_calls (ss k) wr (by omega))
        have hml : (ws.map Value.string).length = ws.length := by simp
        go_wp2_with (first
          | (go_at_call 10; refine HSP.out.mono ?_; rintro e w4 ⟨qa, qc, qcs, rfl, HO4, HP4, HF4, HK4⟩; replace HO4 := hid HO4; replace HP4 := hid HP4; replace HF4 := hid HF4; replace HK4 := hid HK4; have hql : qcs.length ≤ (ss k).size + 1 := by { have h1 := congrArg List.length HP4.out; have h2 := splitL_length (toL (ss k)); rw [List.length_map] at h1; rw [toL_length] at h2; omega }; have hqp : 0 < qcs.length := by { have h1 := congrArg List.length HP4.out; have h2 := List.length_pos_iff.2 (splitL_ne (toL (ss k))); rw [List.length_map] at h1; omega }; obtain ⟨qb, rfl, hqb, hqc⟩ := own_cells HO4.out hqp; have HQ : Hid (∀ (j : Nat) u, (qcs.map Value.string)[j]? = some u → w4.cell? ((⟨qb, 0, none⟩ : Addr).add j) = some u) := (fun j u hj => by { obtain ⟨x, hx, rfl⟩ : ∃ x, qcs[j]? = some x ∧ Value.string x = u := by { simpa using hj }; rw [Addr.add_lit, Nat.zero_add]; exact hqc j x hx }); have HO4' := hid (HO.out.kp HK4.out (by simp)); clear hqc)
          | (at_builtin; refine wpList_append_many rfl (.tmp 38) (.tmp 43) 22 rfl 9 i0 (.string ⟨#[]⟩) 16 Try.underlying22 hi hz0 hz1 hz2 rfl (.slice wa ws.length wc) (ws.map Value.string) rfl HO4'.out ⟨qb, 0, none⟩ qc (qcs.map Value.string) (by rw [List.length_map]; rfl) HQ.out (strs_one qcs) (by rw [hml, List.length_map]; unfold maxLen; omega) (by rw [hml, List.length_map]; omega) ?_; intro v' w5 ho5 hk5 hb5; obtain ⟨a', c', e', _⟩ := ho5.elim; rw [← List.map_append, List.length_map] at e'; subst e'; have HO5 := hid ho5; have HK5 := hid hk5; have HB5 := hid hb5; clear ho5 hk5 hb5))
        go_roundw
        case rel =>
          refine ⟨a', c', k + 1, ws ++ qcs, by omega, by go_num, by rw [List.length_append], by rw [List.length_append]; omega, by rw [List.map_append]; exact HO5.out, ?_, fun j hj => ?_, (HK.out.trans HK4.out (by simp)).trans HK5.out (fun i hi => .inr (HB.out i hi))⟩
          · show _ = _
            rw [List.map_append, HT.out, HP4.out, List.range_succ, List.map_append, List.flatMap_append]
            simp
          · rcases HB5.out j hj with h | h
            · exact HB.out j h
            · have h1 := HK.out.size
              have h2 := HK4.out.size
              omega
        case measure => simp [intOf]; omega
      · obtain rfl : n = k := by omega
        have e : ws = pcs := by
          apply toLs_inj
          rw [HT.out, HP3.out, HJ.out, toL_mk, split_joined ss n h0]
        subst e
        have hwp : 0 < ws.length := by
          have h1 := congrArg List.length HP3.out
          have h2 := List.length_pos_iff.2 (splitL_ne (toL J))
          rw [List.length_map] at h1
          omega
        obtain ⟨b1, rfl, _, hc1⟩ := own_cells (HO3.out.kp HK.out (by simp)) hwp
        obtain ⟨b2, rfl, _, hc2⟩ := own_cells HO.out hwp
        have HSame := hid (sameStrings_calls b1 b2 pc wc ws wr (by omega) hc1 hc2)
        clear hc1 hc2
        go_wp2_with (go_at_call 11; refine HSame.out.mono ?_; rintro e w4 ⟨rfl, q, rfl⟩)
        go_ret
        exact ⟨rfl, (((HK1.out.trans HK2.out (by simp)).trans HK3.out (by simp)).trans HK.out (by simp)).drewN q⟩
end Go.Proofs.Qxb6605979a

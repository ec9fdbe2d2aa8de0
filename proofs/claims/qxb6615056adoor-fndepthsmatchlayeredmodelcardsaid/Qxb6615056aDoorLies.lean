/-
  nextStates, nextLies.
-/
import Derived.Test.Qxb6615056aDoorVer
namespace Go.Proofs.Qxb6615056aDoor
open Go.RowKit Go.Tocsin

theorem VG.pn {V : VP} (G : VG V) : V.s ^ V.n ≤ 1048576 := by
  have h1 : V.s ^ V.n * 1 ≤ V.s ^ V.n * V.n := Nat.mul_le_mul_left _ G.n1
  have h2 := G.sh
  have h3 := G.ln2
  omega
theorem VG.row {V : VP} (G : VG V) {i : Nat} (hi : i < V.s ^ V.n) : i * V.n + V.n ≤ V.ln := by
  have h1 : (i + 1) * V.n ≤ V.s ^ V.n * V.n := Nat.mul_le_mul_right _ hi
  rw [Nat.add_mul, Nat.one_mul, G.sh] at h1
  exact h1

set_option maxHeartbeats 1600000 in
set_option maxRecDepth 100000 in
theorem nextStates_calls {lo : Nat} {V : VP} (G : VG V) (w : World) (hV : VerAt lo w V) (x : Nat → Nat) (hx : ∀ u, u < V.n → x u < V.s) (hr : DRow w V.sb V.n x) :
    Calls Tryd.prog 32 #[.pointer (some ⟨V.tb, 0, none⟩), .slice (some ⟨V.sb, 0, none⟩) V.n V.n] w fun e w' => e = .returned (.slice (some ⟨V.nb, ix V.s x V.n * V.n, none⟩) V.n (V.ln - ix V.s x V.n * V.n)) ∧ ∃ k, w' = w.drewN k := by
  have hn := G.n2
  have HP : Hid (∀ k, k ≤ V.n → ix V.s x k < 1048576) := by
    intro k hk
    have h1 := ix_lt (s := V.s) (d := x) (m := k) (fun j hj => hx j (by omega))
    have h2 : V.s ^ k ≤ V.s ^ V.n := Nat.pow_le_pow_right G.s1 hk
    have h3 := G.pn
    omega
  have HRow := hid (G.row (ix_lt hx))
  have hs1 := G.s1
  have hs2 := G.s2
  have hln := G.ln2
  have t0 := hV.t0
  have t1 := hV.t1
  have t2 := hV.t2
  have HR : Hid (∀ i, i < V.n → w.cell? ⟨V.sb, i, none⟩ = some (.int .i64 (x i : Nat))) := fun i hi => hr.cell hi
  have HD := hid hx
  clear hV hr hx
  go_enter Tryd.func32, Tryd.ntmps32
  go_wp2
  go_loop [5, 7, 10] (fun a _ i => ∃ k : Nat, k ≤ V.n ∧ i = .int .i64 k ∧ a = .int .i64 (ix V.s x k : Nat)) (fun _ _ i => V.n - (intOf i).toNat)
  case atStart => exact ⟨0, by omega, rfl, rfl⟩
  case round =>
    obtain ⟨k, hk, rfl, rfl⟩ := hrel
    by_cases hlt : k < V.n
    · have hck := HR.out k hlt
      have hdk := HD.out k hlt
      have hb0 := HP.out k hk
      have hb1 := HP.out (k + 1) (by omega)
      have e1 : ix V.s x (k + 1) = ix V.s x k * V.s + x k := rfl
      rw [e1] at hb1
      clear e1
      generalize hq : ix V.s x k = q at *
      have HQ := hid hq
      clear hq
      have hm0 : (0 : Int) ≤ (q : Int) * (V.s : Int) := by rw [← Int.natCast_mul]; omega
      have hm1 : (q : Int) * (V.s : Int) ≤ 1048576 := by rw [← Int.natCast_mul]; omega
      clear hb1
      go_wp2
      go_round
      case rel => exact ⟨k + 1, by omega, by go_num, by show _ = Value.int .i64 ((ix V.s x k * V.s + x k : Nat) : Int); rw [HQ.out, Int.natCast_add, Int.natCast_mul]⟩
      case measure => simp [intOf]; omega
    · obtain rfl : V.n = k := by omega
      have hrow := HRow.out
      have hb0 := HP.out V.n (Nat.le_refl _)
      generalize hq : ix V.s x V.n = q at *
      have HQ := hid hq
      clear hq
      have hn1 := G.n1
      have hne : ¬ V.ln = q * V.n := by omega
      have hm0 : (0 : Int) ≤ (q : Int) * (V.n : Int) := by rw [← Int.natCast_mul]; omega
      have hm1 : (q : Int) * (V.n : Int) ≤ 1048576 := by rw [← Int.natCast_mul]; omega
      have hm2 : ((q : Int) + 1) * (V.n : Int) = (q : Int) * (V.n : Int) + (V.n : Int) := by rw [Int.add_mul, Int.one_mul]
      have hm3 : (q : Int) * (V.n : Int) + (V.n : Int) ≤ V.ln := by rw [← Int.natCast_mul]; omega
      go_wp2
      go_quiet (fail)
      go_wp2
      go_ret
      rw [HQ.out]
      refine ⟨?_, _, rfl⟩
      show Ending.returned (.slice _ (q * V.n + V.n - q * V.n) _) = _
      rw [Nat.add_sub_cancel_left]

/-- The lies that are seen. -/
def lie (V : VP) (x : Nat → Nat) : Nat → Nat := fun q => x (nth V.fb true V.n q)

theorem VG.lrank {V : VP} (G : VG V) {q : Nat} (hq : q < V.ml) : cw V.fb true (nth V.fb true V.n q) = q := cw_nth (by rw [← G.hml]; exact hq)

/-- What is seen once the lies behind j have come to 0 and lie j has gone up. -/
theorem lie_bump {V : VP} (G : VG V) (x : Nat → Nat) {j : Nat} (hj : j < V.ml) (y : Nat) (q : Nat) (hq : q < V.ml) :
    (if nth V.fb true V.n q = nth V.fb true V.n j then y else if V.fb (nth V.fb true V.n q) = true ∧ j + 1 ≤ cw V.fb true (nth V.fb true V.n q) then 0 else x (nth V.fb true V.n q)) = bump (lie V x) (fun _ => 0) j y q := by
  rw [bump_zero, G.lrank hq, (G.lia hq).2]
  by_cases e : q = j
  · subst e; simp
  · have hne : ¬ nth V.fb true V.n q = nth V.fb true V.n j := fun h => e (by rw [← G.lrank hq, ← G.lrank hj, h])
    by_cases e2 : q < j + 1
    · have : ¬ j + 1 ≤ q := by omega
      simp [e, hne, e2, this, lie]
    · have : j + 1 ≤ q := by omega
      simp [e, hne, e2, this]

set_option maxHeartbeats 1600000 in
set_option maxRecDepth 100000 in
theorem nextLies_calls {lo : Nat} {V : VP} (G : VG V) (w : World) (hV : VerAt lo w V) (x : Nat → Nat) (hx : ∀ u, u < V.n → x u < V.s) (hr : DRow w V.sb V.n x) :
    Calls Tryd.prog 33 #[.pointer (some ⟨V.vb, 0, none⟩)] w fun e w' => ∃ β x', e = .returned (.bool β) ∧ DRow w' V.sb V.n x' ∧ (∀ u, u < V.n → x' u < V.s) ∧ (∀ u, V.fb u = false → x' u = x u) ∧
      (β = true → ix V.s (lie V x') V.ml = ix V.s (lie V x) V.ml + 1) ∧ (β = false → ix V.s (lie V x) V.ml + 1 = V.s ^ V.ml) ∧ Kp [V.sb] w w' := by
  have hn := G.n2
  have hmln := G.mln
  have hs1 := G.s1
  have hs2 := G.s2
  have HV := hid hV
  have HR := hid hr
  have HX := hid hx
  have v4 := hV.v4
  have hvs : ¬ V.vb = V.sb := (hV.sep V.vb (by simp)).2
  clear hV hr hx
  go_enter Tryd.func33, Tryd.ntmps33
  go_wp2
  go_loopw [3, 4] (fun i _ wr => ∃ k : Nat, k ≤ V.ml ∧ i = .int .i64 ((k : Int) - 1) ∧ DRow wr V.sb V.n (fun u => if V.fb u = true ∧ k ≤ cw V.fb true u then 0 else x u) ∧ (∀ q, k ≤ q → q < V.ml → lie V x q = V.s - 1) ∧ Kp [V.sb] w wr) (fun i _ _ => (intOf i + 1).toNat)
  case atStart =>
    refine ⟨V.ml, by omega, by go_num, HR.out.congr (fun u hu => ?_), fun q h1 h2 => by omega, Kp.refl _ _⟩
    dsimp only
    by_cases e : V.fb u = true
    · have h1 := cw_lt hu e
      rw [← G.hml] at h1
      rw [if_neg (by omega)]
    · rw [if_neg (fun h => e h.1)]
  case round =>
    obtain ⟨k, hk, rfl, hr, ht, hkp⟩ := hrel
    have HRr := hid hr
    have HT := hid ht
    have HK := hid hkp
    by_cases h0 : k = 0
    · subst h0
      clear hr ht hkp
      go_wp2
      go_ret
      refine ⟨false, _, rfl, HRr.out, fun u hu => ?_, fun u hu => ?_, (fun h => by cases h), fun _ => ix_top hs1 (fun q hq => HT.out q (by omega) hq), HK.out⟩
      · split
        · omega
        · exact HX.out u hu
      · simp [hu]
    · obtain ⟨j, rfl⟩ : ∃ j, k = j + 1 := ⟨k - 1, by omega⟩
      have hjl : j < V.ml := by omega
      obtain ⟨u, hu⟩ : ∃ u, u = nth V.fb true V.n j := ⟨_, rfl⟩
      have hun := G.lia hjl
      have hur := G.lrank hjl
      have hlj := ((HV.out.liars (by omega)).2 j hjl)
      have hla := (HV.out.liars (by omega)).1
      have hlbs : V.lb ∉ [V.sb] := by simpa using (HV.out.sep V.lb (by simp)).2
      rw [← hu] at hun hur hlj
      have hxu := HX.out u hun.1
      have hcu := hr.cell hun.1
      have hfu := hr.frozen u
      have hrk : ¬ (V.fb u = true ∧ j + 1 ≤ cw V.fb true u) := by rw [hur]; omega
      simp only [if_neg hrk] at hcu
      have hlj' := hkp.cell' hlj hlbs
      have v4' := hkp.cell' v4 (by simpa using hvs)
      have v6' := hkp.cell' HV.out.v6 (by simpa using hvs)
      have HU := hid hu
      have HV2 := hid (HV.out.kp (HK.out.trans (Kp.set wr V.sb u (.int .i64 ((x u : Int) + 1))) (by simp)) (by simp))
      have hcl : (wr.setCell ⟨V.sb, u, none⟩ (.int .i64 ((x u : Int) + 1))).cell? ⟨V.sb, u, none⟩ = some (.int .i64 ((x u : Int) + 1)) := by
        have := (HRr.out.set u (.int .i64 ((x u : Int) + 1))).cell (i := u) hun.1
        simpa using this
      have hv0 := HV2.out.v0
      have hv6 := HV2.out.v6
      rw [hla] at v4'
      have hun1 := hun.1
      have hfb := hun.2
      clear hr ht hkp hu hlj hrk hlbs hun
      have HLie : Hid (∀ y q, q < V.ml → (if nth V.fb true V.n q = u then y else if V.fb (nth V.fb true V.n q) = true ∧ j + 1 ≤ cw V.fb true (nth V.fb true V.n q) then 0 else x (nth V.fb true V.n q)) = bump (lie V x) (fun _ => 0) j y q) := by
        rw [HU.out]; exact fun y q hq => lie_bump G x hjl y q hq
      go_wp2_with fail
      by_cases hlt : (x u : Int) + 1 < V.s
      · go_quiet ((go_at_call 28; exact Calls.quiet_of_same (states_calls V.tb V.s _ HV2.out.t1)))
        go_wp2
        go_ret
        have HL := HLie.out (x u + 1)
        refine ⟨true, fun v => if v = u then x u + 1 else if V.fb v = true ∧ j + 1 ≤ cw V.fb true v then 0 else x v, rfl, (HRr.out.set u _).congr (fun v hv => ?_), fun v hv => ?_, fun v hv => ?_, fun _ => ?_, (fun h => by cases h), (HK.out.trans (Kp.set wr V.sb u _) (by simp)).drewN _⟩
        · by_cases e : v = u <;> simp [e]
        · dsimp only
          split
          · omega
          · split
            · omega
            · exact HX.out v hv
        · dsimp only
          have : ¬ v = u := fun e => by rw [e, hfb] at hv; cases hv
          rw [if_neg this, if_neg (by rw [hv]; simp)]
        · have hI := ix_inc (d := lie V x) hs1 hjl (fun q h1 h2 => HT.out q (by omega) h2)
          rw [← hI]
          refine ix_congr (fun q hq => ?_)
          have e1 : lie V x j = x u := by rw [HU.out]; rfl
          rw [e1]
          exact HL q hq
      · go_quiet ((go_at_call 28; exact Calls.quiet_of_same (states_calls V.tb V.s _ HV2.out.t1)))
        go_wp2
        go_roundw
        case rel =>
          refine ⟨j, by omega, by go_num, ?_, fun q h1 h2 => ?_, ?_⟩
          · refine (((HRr.out.set u _).drewN _).set u _).congr (fun v hv => ?_)
            dsimp only
            by_cases e : v = u
            · subst e
              simp [hfb, hur]
            · by_cases hv2 : V.fb v = true
              · have hne : cw V.fb true v ≠ j := fun e2 => e (by rw [HU.out, ← e2]; exact (nth_cw hv hv2).symm)
                have hiff : (j + 1 ≤ cw V.fb true v) ↔ (j ≤ cw V.fb true v) := by omega
                simp [e, hiff]
              · simp [e, hv2]
          · by_cases e : q = j
            · subst e
              have e1 : lie V x q = x u := by rw [HU.out]; rfl
              rw [e1]
              omega
            · exact HT.out q (by omega) h2
          · exact (((HK.out.trans (Kp.set wr V.sb u _) (by simp)).drewN _).trans (Kp.set _ V.sb u _) (by simp))
        case measure => simp [intOf]
end Go.Proofs.Qxb6615056aDoor

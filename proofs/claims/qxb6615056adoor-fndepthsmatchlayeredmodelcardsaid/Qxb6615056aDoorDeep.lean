/-
  depths: the whole search.
-/
import Derived.Test.Qxb6615056aDoorDstep
import Derived.Deep.CutRange
namespace Go.Proofs.Qxb6615056aDoor
open Go.RowKit Go.Tocsin

def at0 (C k : Nat) : Nat := if k = C then 0 else k
theorem at0_lt {C k : Nat} (h : k < C) : at0 C k = k := by unfold at0; rw [if_neg (by omega)]
theorem nxt_at0 {C k : Nat} : nxt C k = at0 C (k + 1) := rfl
/-- The depths before the search. -/
def Dz (V : VP) (i : Nat) : Int := if goodC V i = true then 0 else -1

theorem Dz_inv (V : VP) : Inv V.C (SS V) (goodC V) (Dz V) [] := by
  refine ⟨fun i _ => ?_, fun i _ e => ?_, fun f hf => (by cases hf), List.nodup_nil, fun i _ => ⟨fun h => ?_, fun h => ?_⟩, fun i _ e => ?_, fun f hf => (by cases hf), trivial, fun i _ e => ?_⟩
  · unfold Dz; split <;> simp
  · unfold Dz at e; split at e <;> omega
  · unfold Dz; rw [if_pos h]
  · unfold Dz; rw [h]; simp
  · unfold Dz at e; split at e <;> omega
  · unfold Dz at e; split at e <;> omega

set_option maxHeartbeats 6400000 in
set_option maxRecDepth 100000 in
theorem depths_calls {V : VP} (G : VG V) (w : World) (hV : VerAt w.heap.size w V) (F0 : Nat → Value) (hs : Row w V.sb 3 V.n F0) :
    Calls Tryd.prog 19 #[.pointer (some ⟨V.vb, 0, none⟩)] w fun e w' => ∃ g D, e = .returned (.slice (some ⟨g, 0, none⟩) V.C V.C) ∧ w.heap.size ≤ g ∧ Row w' g 3 V.C (fun i => .int .i64 (D i)) ∧ Final V.C (SS V) (goodC V) D ∧ Kp [V.sb] w w' := by
  obtain ⟨i0, hi, hz0, hz1, hz2⟩ := info_parts Tryd.infoI
  have hn := G.n2
  have hmn := G.mn
  have hm1 := G.m1
  have hC2 := G.C2
  have HV := hid hV
  have Hs := hid hs
  have v1 := hV.v1
  have v5 := hV.v5
  have v3 := hV.v3
  clear hV hs
  go_enter Tryd.func19, Tryd.ntmps19
  go_wp2_with (first
    | (at_make; refine wpList_make_row _ rfl _ _ 29 rfl 3 i0 (.int .i64 0) 1 Tryd.underlying29 hi hz0 hz1 _ _ _ _ V.n rfl rfl rfl rfl (by rw [hz2]; omega) (by unfold maxLen; omega) (fun _ => .int .i64 0) (by rw [Nat.mul_one]; exact madeCells_one _ _) ?_; intro w1 hr1 hk1 hs1; have v5' := hk1.cell' v5 (by simp); have v3' := hk1.cell' v3 (by simp))
    | (at_make; refine wpList_make_row _ rfl _ _ 29 rfl 3 i0 (.int .i64 0) 1 Tryd.underlying29 hi hz0 hz1 _ _ _ _ V.C rfl rfl rfl rfl (by rw [hz2]; omega) (by unfold maxLen; omega) (fun _ => .int .i64 0) (by rw [Nat.mul_one]; exact madeCells_one _ _) ?_; intro w2 hr2 hk2 hs2; have v3'' := hk2.cell' v3' (by simp))
    | (at_make; refine wpList_make_row _ rfl _ _ 29 rfl 3 i0 (.int .i64 0) 1 Tryd.underlying29 hi hz0 hz1 _ _ _ _ V.m rfl rfl rfl rfl (by rw [hz2]; omega) (by unfold maxLen; omega) (fun _ => .int .i64 0) (by rw [Nat.mul_one]; exact madeCells_one _ _) ?_; intro w3 hr3 hk3 hs3))
  rw [Nat.mul_one] at hr1 hr2 hr3
  rw [hs2, hs1] at hr3
  rw [hs1] at hr2
  obtain ⟨sg, hsg⟩ : ∃ x, x = w.heap.size + 1 + 1 := ⟨_, rfl⟩
  obtain ⟨db, hdb⟩ : ∃ x, x = w.heap.size + 1 := ⟨_, rfl⟩
  obtain ⟨cb, hcb⟩ : ∃ x, x = w.heap.size := ⟨_, rfl⟩
  rw [← hsg] at hr3
  rw [← hdb] at hr2
  rw [← hcb] at hr1
  rw [← hsg, ← hdb, ← hcb]
  have hsl : V.sb < w.heap.size := Hs.out.lt
  have SP : DSep w.heap.size V w cb db sg := ⟨rfl, hsl, by omega, by omega, by omega, by omega, by omega, by omega⟩
  have HK3 := hid ((hk1.trans hk2 (by simp)).trans hk3 (by simp))
  have HV3 := hid (HV.out.kp HK3.out (by simp))
  have Hs3 := hid (Hs.out.kp HK3.out (by simp))
  have HC3 := hid ((hr1.kp hk2 (by simp)).kp hk3 (by simp))
  have HD3 := hid (hr2.kp hk3 (by simp))
  have HS3 := hid hr3
  have hcd : ¬ cb = db := SP.cd
  have hcg : ¬ cb = sg := SP.cg
  have hdg : ¬ db = sg := SP.dg
  have hcl := SP.c
  have hdl := SP.d
  have hgl := SP.g
  have hvl := (HV.out.sep V.vb (by simp)).1
  have hvd : ¬ V.vb = db := by omega
  have hvc : ¬ V.vb = cb := by omega
  clear hr1 hr2 hr3 hk1 hk2 hk3 hs1 hs2 hs3 v1 v5 v3 v5' v3' v3'' hsg hdb hcb Hs HV hi hz0 hz1 hz2
  go_loopw [35] (fun i wr => ∃ (k : Nat) (d cf : Nat → Nat), k ≤ V.C ∧ i = .int .i64 k ∧ DRow wr sg V.m d ∧ (∀ j, j < V.m → d j < V.s) ∧ ix V.s d V.m = at0 V.C k ∧ Row wr db 3 V.C (fun i => .int .i64 (if i < k then Dz V i else 0)) ∧ DRow wr cb V.n cf ∧ Kp [cb, db, sg] w3 wr) (fun i _ => V.C - (intOf i).toNat)
  case atStart =>
    refine ⟨0, fun _ => 0, fun _ => 0, by omega, rfl, HS3.out, fun j _ => G.s1, ?_, HD3.out.congr (fun i _ => by simp), HC3.out, Kp.refl _ _⟩
    rw [ix_zero]
    unfold at0
    split <;> rfl
  case round =>
    obtain ⟨k, d, cf, hk, rfl, hd, hds, hix, hD, hcf, hkp⟩ := hrel
    have HDr := hid hd
    have HDs := hid hds
    have HIx := hid hix
    have HDD := hid hD
    have HCf := hid hcf
    have HKp := hid hkp
    have HVr := hid (HV3.out.kp hkp (by simp; exact ⟨.inr hcl, .inr hdl, .inr hgl⟩))
    by_cases hlt : k < V.C
    · have hck := hD.cell hlt
      have hfk := hD.frozen k
      have v3 := HVr.out.v3
      clear hd hds hix hD hcf hkp
      go_wp2
      obtain ⟨w5, hw5⟩ : ∃ w5, w5 = wr.setCell ⟨db, k, none⟩ (.int .i64 (-1)) := ⟨_, rfl⟩
      have k5 : Kp [db] wr w5 := by rw [hw5]; exact Kp.set _ _ _ _
      have HD5 : Hid (Row w5 db 3 V.C (fun i => .int .i64 (if i < k then Dz V i else if i = k then -1 else 0))) := by
        rw [hw5]
        refine (HDD.out.set k _).congr (fun i _ => ?_)
        by_cases e : i = k
        · simp [e]
        · by_cases e2 : i < k <;> simp [e, e2]
      rw [← hw5]
      have HV5 := hid (HVr.out.kp k5 (by simp; exact .inr hdl))
      have HS5 : Hid (DRow w5 sg V.m d) := HDr.out.kp k5 (by simpa using Ne.symm hdg)
      have HC5 : Hid (DRow w5 cb V.n cf) := HCf.out.kp k5 (by simpa using hcd)
      have HK5 := hid (HKp.out.trans k5 (by simp))
      clear hw5 k5 HDr HDD HCf HKp HVr hck hfk v3
      go_loopw [7, 8, 46] (fun _ _ i wq => ∃ q : Nat, q ≤ V.m ∧ i = .int .i64 q ∧ DRow wq cb V.n (fun u => if V.fb u = false ∧ cw V.fb false u < q then d (cw V.fb false u) else cf u) ∧ Kp [cb] w5 wq) (fun _ _ i _ => V.m - (intOf i).toNat)
      case atStart => exact ⟨0, by omega, rfl, HC5.out.congr (fun u hu => by simp), Kp.refl _ _⟩
      case round =>
        obtain ⟨q, hq, rfl, hr, hkp⟩ := hrel
        have HRr := hid hr
        have HKp := hid hkp
        have HV6 := hid (HV5.out.kp hkp (by simpa using .inr hcl))
        by_cases hlq : q < V.m
        · obtain ⟨u, hu⟩ : ∃ u, u = nth V.fb false V.n q := ⟨_, rfl⟩
          have hun := G.cor hlq
          have hur : cw V.fb false (nth V.fb false V.n q) = q := cw_nth (by rw [← G.hm]; exact hlq)
          have hckk := HV6.out.correct q hlq
          have hcs' := hkp.cell' (HS5.out.cell hlq) (by simpa using Ne.symm hcg)
          rw [← hu] at hun hur hckk
          have hcu := hr.cell hun.1
          have hfu := hr.frozen u
          have hun1 := hun.1
          have hfb := hun.2
          have HU := hid hu
          clear hr hkp hu hun
          go_wp2
          go_roundw
          case rel =>
            refine ⟨q + 1, by omega, by go_num, (HRr.out.set u _).congr (fun v hv => ?_), HKp.out.setCell (.inl (by simp)) _⟩
            dsimp only
            by_cases e : v = u
            · subst e
              simp [hfb, hur]
            · by_cases hv2 : V.fb v = false
              · have hne : cw V.fb false v ≠ q := fun e2 => e (by rw [HU.out, ← e2]; exact (nth_cw hv hv2).symm)
                have hiff : (cw V.fb false v < q + 1) ↔ (cw V.fb false v < q) := by omega
                simp [e, hiff]
              · simp [e, hv2]
          case measure => simp [intOf]; omega
        · obtain rfl : V.m = q := by omega
          have HCF : Hid (∀ u, u < V.n → V.fb u = false → (fun u => if V.fb u = false ∧ cw V.fb false u < V.m then d (cw V.fb false u) else cf u) u = d (cw V.fb false u)) := fun u hu hf => by
            have h1 := cw_lt hu hf
            rw [← G.hm] at h1
            simp [hf, h1]
          obtain ⟨cf1, hcf1⟩ : ∃ cf1 : Nat → Nat, cf1 = fun u => if V.fb u = false ∧ cw V.fb false u < V.m then d (cw V.fb false u) else cf u := ⟨_, rfl⟩
          rw [← hcf1] at HCF HRr
          have HD6 := hid (HD5.out.kp hkp (by simpa using Ne.symm hcd))
          have HS6 : Hid (DRow wr sg V.m d) := HS5.out.kp hkp (by simpa using Ne.symm hcg)
          have HK6 := hid (HK5.out.trans hkp (by simp))
          have v1 := HV6.out.v1
          have v2 := HV6.out.v2
          have hgk : goodC V k = goodD V d := by
            unfold goodC
            refine good_congr G (fun j hj => ?_)
            have h1 := HIx.out
            rw [at0_lt hlt] at h1
            rw [← h1, dg_ix G.s1 HDs.out j hj]
          have HGk := hid hgk
          clear hr hkp hcf1 HC5 HS5 HD5 HK5 HKp HV5 hgk
          go_wp2_with fail
          go_quiet ((go_at_call 22; exact Calls.quiet_of_same (counted_calls G _ (HV6.out.drewN _) cb cf1 d HCF.out HRr.out)))
          cases hg : goodD V d
          · have HG := hid hg
            clear hg
            go_wp2_with fail
            refine (increment_calls G _ (HV6.out.drewN _) sg V.m hgl d HDs.out (HS6.out.drewN _)).mono ?_
            rintro e w7 ⟨rfl, d', hd', hds', hix', hk7⟩
            have H7 := hid (And.intro hd' (And.intro hds' (And.intro hix' hk7)))
            clear hd' hds' hix' hk7
            go_wp2
            go_roundw
            case rel =>
              obtain ⟨hd', hds', hix', hk7⟩ := H7.out
              refine ⟨k + 1, d', cf1, by omega, by go_num, hd', hds', ?_, ((HD6.out.drewN _).kp hk7 (by simpa using hdg)).congr (fun i _ => ?_), (HRr.out.drewN _).kp hk7 (by simpa using hcg), (HK6.out.drewN _).trans hk7 (by simp)⟩
              · rw [hix', HIx.out, at0_lt hlt, nxt_at0]
              · by_cases e : i = k
                · subst e
                  have e0 : Dz V i = -1 := by unfold Dz; rw [HGk.out, HG.out]; simp
                  simp [e0]
                · by_cases e2 : i < k
                  · have e3 : i < k + 1 := by omega
                    simp [e2, e3]
                  · have e3 : ¬ i < k + 1 := by omega
                    simp [e, e2, e3]
            case measure => simp [intOf]; omega
          · have HG := hid hg
            have hck6 := HD6.out.cell hlt
            have hfk6 := HD6.out.frozen k
            clear hg
            go_wp2_with fail
            have k7 : Kp [db] wr ((wr.drewN nq).setCell ⟨db, k, none⟩ (.int .i64 0)) := ((Kp.refl _ _).drewN _).setCell (.inl (by simp)) _
            refine (increment_calls G ((wr.drewN nq).setCell ⟨db, k, none⟩ (.int .i64 0)) (HV6.out.kp k7 (by simp; exact .inr hdl)) sg V.m hgl d HDs.out (HS6.out.kp k7 (by simpa using Ne.symm hdg))).mono ?_
            rintro e w7 ⟨rfl, d', hd', hds', hix', hk7⟩
            have H7 := hid (And.intro hd' (And.intro hds' (And.intro hix' hk7)))
            have K7 := hid k7
            clear hd' hds' hix' hk7 k7
            go_wp2
            go_roundw
            case rel =>
              obtain ⟨hd', hds', hix', hk7⟩ := H7.out
              refine ⟨k + 1, d', cf1, by omega, by go_num, hd', hds', ?_, ((HD6.out.drewN _).set k _ |>.kp hk7 (by simpa using hdg)).congr (fun i _ => ?_), (HRr.out.kp K7.out (by simpa using hcd)).kp hk7 (by simpa using hcg), (HK6.out.trans K7.out (by simp)).trans hk7 (by simp)⟩
              · rw [hix', HIx.out, at0_lt hlt, nxt_at0]
              · by_cases e : i = k
                · subst e
                  have e0 : Dz V i = 0 := by unfold Dz; rw [HGk.out, HG.out]; simp
                  simp [e0]
                · by_cases e2 : i < k
                  · have e3 : i < k + 1 := by omega
                    simp [e, e2, e3]
                  · have e3 : ¬ i < k + 1 := by omega
                    simp [e, e2, e3]
            case measure => simp [intOf]; omega
    · obtain rfl : V.C = k := by omega
      have I0 : Hid (DInv w.heap.size V w wr cb db sg 0 d 0 0 0 (fun _ => zSlot) (fun _ => ⟨0, 0, false, 0⟩) (Dz V)) := by
        refine ⟨HVr.out, by omega, fun h => by omega, fun i h => by omega, Dz_inv V, fun i h => by omega, hD.congr (fun i hi => by rw [if_pos hi]), hd, ⟨cf, hcf⟩, ⟨F0, Hs3.out.kp hkp ?_⟩, ?_⟩
        · have := SP.s; simp; omega
        · exact (HK3.out.weaken (by simp)).trans hkp (by simp; omega)
      have HDs0 : Hid ((∀ j, j < V.m → d j < V.s) ∧ ix V.s d V.m = 0) := ⟨hds, by rw [hix]; unfold at0; simp⟩
      clear hd hds hix hD hcf hkp HDr HDs HIx HDD HCf HKp HVr HV3 Hs3 HC3 HD3 HS3 HK3
      go_wp2
      go_loopw [11, 82] (fun p i wr => ∃ (k : Nat) (d : Nat → Nat) (cap pb : Nat) (P : Nat → Slot) (fr : Nat → Fr) (D : Nat → Int), k ≤ V.C ∧ i = .int .i64 k ∧ p = pathVal pb 0 cap ∧ (∀ j, j < V.m → d j < V.s) ∧ ix V.s d V.m = at0 V.C k ∧ DInv w.heap.size V w wr cb db sg k d 0 cap pb P fr D) (fun _ i _ => V.C - (intOf i).toNat)
      case atStart => exact ⟨0, d, 0, 0, _, _, _, by omega, rfl, rfl, HDs0.out.1, by rw [HDs0.out.2]; unfold at0; split <;> rfl, I0.out⟩
      case round =>
        clear I0 HDs0
        obtain ⟨k, d, cap, pb, P, fr, D, hk, rfl, rfl, hds, hix, hI⟩ := hrel
        have HDs := hid hds
        have HIx := hid hix
        have HI := hid hI
        by_cases hlt : k < V.C
        · have hDk := hI.dep.cell hlt
          clear hds hix hI
          go_upto_if 89 with fail
          go_cut [11, 82] from 82 to 179 (fun p i wc => i = .int .i64 k ∧ ∃ (len cap pb : Nat) (P : Nat → Slot) (fr : Nat → Fr) (D : Nat → Int), p = pathVal pb len cap ∧ DInv w.heap.size V w wc cb db sg (k + 1) d len cap pb P fr D)
          case first =>
            by_cases hun : D k = -1
            · rw [hun] at hDk
              have hunb : (D k == -1) = true := by simp [hun]
              obtain ⟨cf1, hcf1⟩ := HI.out.cfg
              obtain ⟨F1, hF1⟩ := HI.out.sen
              have HUN := hid hun
              have HCF := hid hcf1
              have HFS := hid hF1
              clear hun hcf1 hF1
              go_wp2_with fail
              refine (enter_calls (W := [cb, V.sb, db, sg]) G wr HI.out.ver pb 0 cap k cb sg P cf1 d F1 (by omega) (by omega) (HI.out.wlo SP) HI.out.W (by simp) (by simp) hcl (by have := SP.s; omega) (Ne.symm hcg) (fun h0 e => (HI.out.mem h0).pbW (by simp [e])) HDs.out HI.out.mem HI.out.sts HCF.out HFS.out).mono ?_
              rintro e w1 ⟨pb', cap', P', gm, gd, M, dd, cf', rfl, hlc', hmem', hP', hPl', hM', hB', hD', hd', hcf', hs', hk'⟩
              have hsepl := hmem'.sep 0 hlc' (by rw [hPl'])
              rw [hPl'] at hsepl
              obtain ⟨q1, q2, q3, q4, q5, q6, q7⟩ := hsepl
              have hpW := hmem'.pbW
              have hndb : db ∉ [pb', cb, V.sb, gm, gd] := by
                have := SP.s
                simp only [List.mem_cons, List.not_mem_nil, or_false, not_or] at q6 q7 hpW ⊢
                exact ⟨Ne.symm hpW.2.2.1, Ne.symm hcd, by omega, Ne.symm q6.2.2.1, Ne.symm q7.2.2.1⟩
              have HDp := hid (HI.out.dep.kp hk' hndb)
              have hck1 := HDp.out.cell hlt
              have hfk1 := HDp.out.frozen k
              have HE := hid (And.intro hlc' (And.intro hmem' (And.intro hP' (And.intro hPl' (And.intro hM' (And.intro hB' (And.intro hD' (And.intro hd' (And.intro hcf' (And.intro hs' hk'))))))))))
              clear hlc' hmem' hP' hPl' hM' hB' hD' hd' hcf' hs' hk' q1 q2 q3 q4 q5 q6 q7 hpW hndb
              go_wp2
              go_meet
              case rel =>
                obtain ⟨hlc', hmem', hP', hPl', hM', hB', hD', hd', hcf', hs', hk'⟩ := HE.out
                obtain ⟨fr', h1, h2⟩ := HI.out.entered (K' := k + 1) G SP hlt HUN.out HDs.out (by rw [HIx.out, at0_lt hlt]) (fun _ => trivial) (fun h => h) hlc' hmem' hP' hPl' hM' hB' hD' hd' hcf' hs' hk' (Kp.set w1 db k (.int .i64 (-2))) ((HDp.out.set k _).congr (fun i _ => by by_cases e : i = k <;> simp [upd, e])) (fun i h1 h2 => by omega)
                refine ⟨rfl, 1, cap', pb', P', fr', _, ?_, h1⟩
                unfold pathVal
                rw [if_neg (by omega)]
            · have hunb : (D k == -1) = false := by simpa using hun
              have HUN := hid hun
              clear hun
              go_wp2
              go_meet
              case rel =>
                refine ⟨rfl, 0, cap, pb, P, fr, D, rfl, ?_⟩
                exact ⟨HI.out.ver, HI.out.lc, HI.out.mem, HI.out.act, HI.out.inv, fun i h1 h2 => by
                  by_cases e : i = k
                  · subst e; exact HUN.out
                  · exact HI.out.done i (by omega) h2, HI.out.dep, HI.out.sts, HI.out.cfg, HI.out.sen, HI.out.kp⟩
          case rest =>
            clear HI hDk
            obtain ⟨rfl, len, cap, pb, P, fr, D, rfl, hI⟩ := hcut
            have HI := hid hI
            clear hI
            go_wp2
            go_loopg [11] (mu V.C D (pathL fr len)) (fun gk p wx => ∃ (len cap pb : Nat) (P : Nat → Slot) (fr : Nat → Fr) (D : Nat → Int), gk = mu V.C D (pathL fr len) ∧ p = pathVal pb len cap ∧ DInv w.heap.size V w wx cb db sg (k + 1) d len cap pb P fr D)
            case atStart => exact ⟨len, cap, pb, P, fr, D, rfl, rfl, HI.out⟩
            case round =>
              clear HI
              obtain ⟨len, cap, pb, P, fr, D, hgk, rfl, hI⟩ := hrel
              have HGK := hid hgk
              have HI := hid hI
              have hlc := hI.lc
              clear hgk
              cases len with
              | zero =>
                obtain ⟨pv, lc2, hpv⟩ : ∃ pv lc2, pathVal pb 0 cap = .slice pv 0 lc2 := by
                  unfold pathVal
                  split
                  · exact ⟨_, _, rfl⟩
                  · exact ⟨_, _, rfl⟩
                rw [hpv]
                have HPV := hid hpv
                clear hI hpv
                go_wp2_with fail
                refine (increment_calls G _ HI.out.ver sg V.m hgl d HDs.out HI.out.sts).mono ?_
                rintro e w7 ⟨rfl, d', hd', hds', hix', hk7⟩
                have H7 := hid (And.intro hd' (And.intro hds' (And.intro hix' hk7)))
                clear hd' hds' hix' hk7
                go_wp2
                go_roundw
                case rel =>
                  obtain ⟨hd', hds', hix', hk7⟩ := H7.out
                  obtain ⟨cf1, hcf1⟩ := HI.out.cfg
                  obtain ⟨F1, hF1⟩ := HI.out.sen
                  refine ⟨k + 1, d', cap, pb, P, fr, D, by omega, by go_num, HPV.out.symm, hds', by rw [hix', HIx.out, at0_lt hlt, nxt_at0], ⟨HI.out.ver.kp hk7 (by simp; exact .inr hgl), by omega, fun h0 => (HI.out.mem h0).kp hk7 (by simp), fun i h => by omega, HI.out.inv, HI.out.done, HI.out.dep.kp hk7 (by simpa using hdg), hd', ⟨cf1, hcf1.kp hk7 (by simpa using hcg)⟩, ⟨F1, hF1.kp hk7 (by have := SP.s; simp; omega)⟩, HI.out.kpo SP hk7 (by simp; exact .inr hgl)⟩⟩
                case measure => simp [intOf]; omega
              | succ l =>
                have hcap : 0 < cap := by omega
                have hlcap : l < cap := by omega
                have hpv : pathVal pb (l + 1) cap = .slice (some ⟨pb, 0, none⟩) (l + 1) cap := by unfold pathVal; rw [if_neg (by omega)]
                rw [hpv]
                have hfew := hI.few G
                have hmem := hI.mem hcap
                have hact := hI.act l (by omega)
                obtain ⟨a1, a2, a3, a4, ⟨M, hM, hB⟩, a6⟩ := hact
                obtain ⟨q1, q2, q3, q4, q5, q6, q7⟩ := hmem.sep l hlcap a2
                have hidx := (hI.inv.frames (fr l) (mem_pathL (k := l + 1) (by omega))).1
                have c0 : wr.cell? ⟨pb, l * 5, none⟩ = some (.int .i64 ((fr l).idx : Nat)) := by
                  have h := hmem.row.cell hlcap (k := 0) (by omega)
                  rw [Nat.add_zero] at h
                  rw [h, ← a1]; rfl
                have c2 : wr.cell? ⟨pb, l * 5 + 2, none⟩ = some (.slice (some ⟨(P l).gd, 0, none⟩) V.m V.m) := by
                  rw [hmem.row.cell hlcap (k := 2) (by omega)]
                  show some (dCell V.m (P l)) = _
                  unfold dCell
                  rw [if_pos a2]
                have c1 : wr.cell? ⟨pb, l * 5 + 1, none⟩ = some (.slice (some ⟨(P l).gm, 0, none⟩) V.m V.m) := by
                  rw [hmem.row.cell hlcap (k := 1) (by omega)]
                  show some (mCell V.m (P l)) = _
                  unfold mCell
                  rw [if_pos a2]
                have c3 : wr.cell? ⟨pb, l * 5 + 3, none⟩ = some (.bool (fr l).more) := by
                  rw [hmem.row.cell hlcap (k := 3) (by omega), ← a3]; rfl
                have c4 : wr.cell? ⟨pb, l * 5 + 4, none⟩ = some (.int .i64 (fr l).dep) := by
                  rw [hmem.row.cell hlcap (k := 4) (by omega), ← a4]; rfl
                have y3 := hmem.row.frozen (l * 5 + 3)
                have y4 := hmem.row.frozen (l * 5 + 4)
                have HFR := hid hmem.row
                have hpd : ¬ pb = db := by
                  have h := hmem.pbW
                  simp only [List.mem_cons, List.not_mem_nil, or_false, not_or] at h
                  exact h.2.2.1
                have HA := hid (And.intro a1 (And.intro a2 (And.intro a3 a4)))
                have HM := hid (And.intro hM hB)
                have HA6 := hid a6
                have HQ := hid (And.intro q1 (And.intro q2 (And.intro q3 (And.intro q4 (And.intro q5 (And.intro q6 q7))))))
                cases hmr : (fr l).more
                · have hcd' := hI.dep.cell hidx
                  have hfd' := hI.dep.frozen (fr l).idx
                  rw [hmr] at c3
                  have HMR := hid hmr
                  clear hI hpv hmem a1 a2 a3 a4 hM hB a6 q1 q2 q3 q4 q5 q6 q7 hmr c1 c2
                  go_wp2_with fail
                  go_region
                  all_goals go_wp2
                  have hp := HI.out.pop SP HMR.out ((Kp.set wr db (fr l).idx (.int .i64 (fr l).dep)).drew) (((HI.out.dep.set (fr l).idx (.int .i64 (fr l).dep)).drew).congr (fun i _ => by by_cases e : i = (fr l).idx <;> simp [upd, e]))
                  go_roundg (mu V.C (upd D (fr l).idx (fr l).dep) (pathL fr l))
                  case measure => rw [HGK.out]; exact hp.2
                  case rel => exact ⟨l, cap, pb, P, fr, _, rfl, by unfold pathVal; rw [if_neg (by omega)], hp.1⟩
                · rw [hmr] at c3
                  obtain ⟨dd, hdd, hcan, hixd⟩ := a6 hmr
                  obtain ⟨f1, f2, f3, f4⟩ := hI.inv.frames (fr l) (mem_pathL (k := l + 1) (by omega))
                  obtain ⟨g1, g2, g3, g4, g5⟩ := f3 hmr
                  have hdb := hI.inv.dep SS.lt (mem_pathL (k := l + 1) (show l < l + 1 by omega)) hmr
                  have hcur := hI.dep.cell g2
                  have hval := hI.inv.val _ g2
                  have hbnd := hI.inv.bound SS.lt g2
                  have HMR := hid hmr
                  have HDD := hid hdd
                  have HCAN := hid hcan
                  have HIXD := hid hixd
                  have HDL : Hid (∀ j, j < V.m → dd j < V.s) := fun j hj => can_lt G (dgs G _) hj (hcan j hj)
                  have HPV := hid hpv
                  clear hI hpv hmem a1 a2 a3 a4 hM hB a6 q1 q2 q3 q4 q5 q6 q7 hmr hdd hcan hixd f1 f2 f3 f4 g1 g3 g4 g5 hidx c0
                  go_wp2_with fail
                  refine (index_calls G wr HI.out.ver (P l).gd V.m dd HDL.out HDD.out).mono ?_
                  rintro e w8 ⟨rfl, hw8⟩
                  have hw8' := hw8.symm
                  subst hw8'
                  clear hw8
                  rw [HIXD.out]
                  obtain ⟨cur, hcr⟩ : ∃ cur, cur = (fr l).cur := ⟨_, rfl⟩
                  have HCR := hid hcr
                  rw [← hcr] at hcur hval hbnd g2
                  rw [← hcr]
                  clear hcr
                  obtain ⟨Dc, hDc⟩ : ∃ Dc, Dc = D cur := ⟨_, rfl⟩
                  have HDC := hid hDc
                  rw [← hDc] at hcur hval hbnd
                  clear hDc
                  rcases hval with hv | hv | hv | hv
                  · -- not explored
                    subst hv
                    obtain ⟨cf1, hcf1⟩ := HI.out.cfg
                    obtain ⟨F1, hF1⟩ := HI.out.sen
                    have hgn := HQ.out
                    simp only [List.mem_cons, List.not_mem_nil, or_false, not_or] at hgn
                    have HEn := hid (enter_calls (W := [cb, V.sb, db, sg]) G wr HI.out.ver pb (l + 1) cap cur cb (P l).gd P cf1 dd F1 hlc (by omega) (HI.out.wlo SP) HI.out.W (by simp) (by simp) hcl (by have := SP.s; omega) hgn.2.2.2.2.2.2.1 (fun _ => hgn.2.2.2.2.1) HDL.out HI.out.mem HDD.out hcf1 hF1)
                    rw [HPV.out] at HEn
                    clear hcf1 hF1 hgn
                    go_wp2_with fail
                    refine HEn.out.mono ?_
                    rintro e w1 ⟨pb', cap', P', gm, gd, M', dd', cf', rfl, hlc', hmem', hP', hPl', hM', hB', hD', hd', hcf', hs', hk'⟩
                    have hsepl := hmem'.sep (l + 1) hlc' (by rw [hPl'])
                    rw [hPl'] at hsepl
                    obtain ⟨q1, q2, q3, q4, q5, q6, q7⟩ := hsepl
                    have hpW := hmem'.pbW
                    have hndb : db ∉ [pb', cb, V.sb, gm, gd] := by
                      have := SP.s
                      simp only [List.mem_cons, List.not_mem_nil, or_false, not_or] at q6 q7 hpW ⊢
                      exact ⟨Ne.symm hpW.2.2.1, Ne.symm hcd, by omega, Ne.symm q6.2.2.1, Ne.symm q7.2.2.1⟩
                    have HDp := hid (HI.out.dep.kp hk' hndb)
                    have hck1 := HDp.out.cell g2
                    have hfk1 := HDp.out.frozen cur
                    have HE := hid (And.intro hlc' (And.intro hmem' (And.intro hP' (And.intro hPl' (And.intro hM' (And.intro hB' (And.intro hD' (And.intro hd' (And.intro hcf' (And.intro hs' hk'))))))))))
                    clear hlc' hmem' hP' hPl' hM' hB' hD' hd' hcf' hs' hk' q1 q2 q3 q4 q5 q6 q7 hpW hndb HEn
                    go_wp2
                    obtain ⟨hlc', hmem', hP', hPl', hM', hB', hD', hd', hcf', hs', hk'⟩ := HE.out
                    have hch : Chain (fr l :: pathL fr l) := HI.out.inv.chain
                    obtain ⟨fr', h1, h2⟩ := HI.out.entered (K' := k + 1) G SP g2 HDC.out.symm HDL.out (by rw [HIXD.out, HCR.out]) (fun _ => ⟨HMR.out, HCR.out.symm, hch⟩) (fun h => by
                      rcases h with ⟨e, _⟩ | ⟨_, e⟩
                      · rw [HMR.out] at e; cases e
                      · rw [← HCR.out, ← HDC.out] at e; cases e) hlc' hmem' hP' hPl' hM' hB' hD' hd' hcf' hs' hk' (Kp.set w1 db cur (.int .i64 (-2))) ((HDp.out.set cur _).congr (fun i _ => by by_cases e : i = cur <;> simp [upd, e])) (fun i h1 h2 => .inr h1)
                    go_roundg (mu V.C (upd D cur (-2)) (pathL fr' (l + 1 + 1)))
                    case measure => rw [HGK.out]; exact h2
                    case rel => exact ⟨l + 1 + 1, cap', pb', P', fr', _, rfl, by unfold pathVal; rw [if_neg (by omega)], h1⟩
                  · subst hv
                    go_wp2
                    have HF2 : FRow ((wr.setCell ⟨pb, l * 5 + 4, none⟩ (.int .i64 (-3))).setCell ⟨pb, l * 5 + 3, none⟩ (.bool false)) pb cap V.m (updS P l { P l with dep := -3, more := false }) := by
                      have h := (HFR.out.set4 l (-3)).set3 l false
                      simp only [updS_updS, updS_same] at h
                      exact h
                    obtain ⟨P', fr', hn1, hn2⟩ := HI.out.doomed SP HMR.out (.inl (by rw [← HCR.out, ← HDC.out])) ((Kp.set _ _ _ _).setCell (.inl (by simp)) _) HF2
                    go_roundg (mu V.C D (pathL fr' (l + 1)))
                    case measure => rw [HGK.out]; exact hn2
                    case rel => exact ⟨l + 1, cap, pb, P', fr', _, rfl, HPV.out.symm, hn1⟩
                  · subst hv
                    go_wp2
                    have HF2 : FRow ((wr.setCell ⟨pb, l * 5 + 4, none⟩ (.int .i64 (-3))).setCell ⟨pb, l * 5 + 3, none⟩ (.bool false)) pb cap V.m (updS P l { P l with dep := -3, more := false }) := by
                      have h := (HFR.out.set4 l (-3)).set3 l false
                      simp only [updS_updS, updS_same] at h
                      exact h
                    obtain ⟨P', fr', hn1, hn2⟩ := HI.out.doomed SP HMR.out (.inr (by rw [← HCR.out, ← HDC.out])) ((Kp.set _ _ _ _).setCell (.inl (by simp)) _) HF2
                    go_roundg (mu V.C D (pathL fr' (l + 1)))
                    case measure => rw [HGK.out]; exact hn2
                    case rel => exact ⟨l + 1, cap, pb, P', fr', _, rfl, HPV.out.symm, hn1⟩
                  · have hb1 : (Dc == -2) = false := by simp; omega
                    have hb2 : (Dc == -3) = false := by simp; omega
                    have hb3 : (Dc == -1) = false := by simp; omega
                    obtain ⟨dep, hdep⟩ : ∃ dep, dep = (fr l).dep := ⟨_, rfl⟩
                    have HDEP := hid hdep
                    rw [← hdep] at c4 hdb
                    clear hdep
                    by_cases hmx : dep < Dc + 1
                    · have HMX : Hid (max (fr l).dep (D (fr l).cur + 1) = Dc + 1) := by
                        show max _ _ = _
                        rw [← HDEP.out, ← HCR.out, ← HDC.out]
                        omega
                      obtain ⟨X, hX⟩ : ∃ X, X = Dc + 1 := ⟨_, rfl⟩
                      rw [← hX] at HMX
                      go_wp2_with fail
                      rw [← hX]
                      clear hX
                      have HFX : Hid (FRow (wr.setCell ⟨pb, l * 5 + 4, none⟩ (.int .i64 X)) pb cap V.m (updS P l { P l with dep := X })) := HFR.out.set4 l X
                      obtain ⟨wX, hwX⟩ : ∃ wX, wX = wr.setCell ⟨pb, l * 5 + 4, none⟩ (.int .i64 X) := ⟨_, rfl⟩
                      have kX : Kp [pb] wr wX := by rw [hwX]; exact Kp.set _ _ _ _
                      rw [← hwX] at HFX
                      rw [← hwX]
                      have KX := hid kX
                      obtain ⟨q1, q2, q3, q4, q5, q6, q7⟩ := HQ.out
                      have d1 : wX.cell? ⟨pb, l * 5 + 1, none⟩ = some (.slice (some ⟨(P l).gm, 0, none⟩) V.m V.m) := by
                        rw [HFX.out.cell hlcap (k := 1) (by omega), updS_same]
                        show some (mCell V.m _) = _
                        unfold mCell
                        rw [if_pos HA.out.2.1]
                      have d2 : wX.cell? ⟨pb, l * 5 + 2, none⟩ = some (.slice (some ⟨(P l).gd, 0, none⟩) V.m V.m) := by
                        rw [HFX.out.cell hlcap (k := 2) (by omega), updS_same]
                        show some (dCell V.m _) = _
                        unfold dCell
                        rw [if_pos HA.out.2.1]
                      have hv8 := HI.out.ver.kp kX (by simp; exact .inr (HI.out.mem hcap).plo)
                      refine (advance_calls pb (l * 5) (P l).gm (P l).gd V.m V.s M dd (fun j b => Can V (dg V.s V.m (fr l).idx) (V.s ^ V.ml) j b) wX hm1 (by omega) G.s2 q3 (Ne.symm q5) (by have := (hv8.sep 0 (by simp)).1; omega) hv8.tab d1 d2 (HM.out.1.kp kX (by simpa using q4)) HM.out.2 (fun j x hj h => can_lt G (dgs G _) hj h) (HDD.out.kp kX (by simpa using q5)) HCAN.out).mono ?_
                      rintro e w9 ⟨β, d', rfl, hd9, h19, h29, hk9⟩
                      have HF9 := hid (HFX.out.kp hk9 (by simpa using Ne.symm q5))
                      have c9 := HF9.out.cell hlcap (k := 3) (by omega)
                      have y9 := HF9.out.frozen (l * 5 + 3)
                      have H9 := hid (And.intro hd9 (And.intro h19 (And.intro h29 hk9)))
                      clear hd9 h19 h29 hk9 kX hwX d1 d2 hv8 q1 q2 q3 q4 q5 q6 q7
                      go_wp2
                      obtain ⟨hd9, h19, h29, hk9⟩ := H9.out
                      have HFn : FRow (w9.setCell ⟨pb, l * 5 + 3, none⟩ (.bool β)) pb cap V.m (updS P l { P l with dep := max (fr l).dep (D (fr l).cur + 1), more := β }) := by
                        have h := HF9.out.set3 l β
                        simp only [updS_updS, updS_same] at h
                        rw [HMX.out]
                        exact h
                      have hgp : (P l).gd ≠ pb := HQ.out.2.2.2.2.1
                      obtain ⟨P', fr', hn1, hn2⟩ := HI.out.adv G SP HMR.out (by rw [← HCR.out, ← HDC.out]; exact hv) HIXD.out h19 h29 (((KX.out.weaken (S' := [pb, (P l).gd]) (by simp)).trans hk9 (by simp)).setCell (.inl (by simp)) _) HFn (hd9.other (p := ⟨pb, l * 5 + 3, none⟩) hgp _)
                      go_roundg (mu V.C D (pathL fr' (l + 1)))
                      case measure => rw [HGK.out]; exact hn2
                      case rel => exact ⟨l + 1, cap, pb, P', fr', _, rfl, HPV.out.symm, hn1⟩
                    · have HMX : Hid (max (fr l).dep (D (fr l).cur + 1) = dep) := by
                        show max _ _ = _
                        rw [← HDEP.out, ← HCR.out, ← HDC.out]
                        omega
                      obtain ⟨X, hX⟩ : ∃ X, X = dep := ⟨_, rfl⟩
                      rw [← hX] at HMX
                      go_wp2_with fail
                      rw [← hX]
                      clear hX
                      have HFX : Hid (FRow (wr.setCell ⟨pb, l * 5 + 4, none⟩ (.int .i64 X)) pb cap V.m (updS P l { P l with dep := X })) := HFR.out.set4 l X
                      obtain ⟨wX, hwX⟩ : ∃ wX, wX = wr.setCell ⟨pb, l * 5 + 4, none⟩ (.int .i64 X) := ⟨_, rfl⟩
                      have kX : Kp [pb] wr wX := by rw [hwX]; exact Kp.set _ _ _ _
                      rw [← hwX] at HFX
                      rw [← hwX]
                      have KX := hid kX
                      obtain ⟨q1, q2, q3, q4, q5, q6, q7⟩ := HQ.out
                      have d1 : wX.cell? ⟨pb, l * 5 + 1, none⟩ = some (.slice (some ⟨(P l).gm, 0, none⟩) V.m V.m) := by
                        rw [HFX.out.cell hlcap (k := 1) (by omega), updS_same]
                        show some (mCell V.m _) = _
                        unfold mCell
                        rw [if_pos HA.out.2.1]
                      have d2 : wX.cell? ⟨pb, l * 5 + 2, none⟩ = some (.slice (some ⟨(P l).gd, 0, none⟩) V.m V.m) := by
                        rw [HFX.out.cell hlcap (k := 2) (by omega), updS_same]
                        show some (dCell V.m _) = _
                        unfold dCell
                        rw [if_pos HA.out.2.1]
                      have hv8 := HI.out.ver.kp kX (by simp; exact .inr (HI.out.mem hcap).plo)
                      refine (advance_calls pb (l * 5) (P l).gm (P l).gd V.m V.s M dd (fun j b => Can V (dg V.s V.m (fr l).idx) (V.s ^ V.ml) j b) wX hm1 (by omega) G.s2 q3 (Ne.symm q5) (by have := (hv8.sep 0 (by simp)).1; omega) hv8.tab d1 d2 (HM.out.1.kp kX (by simpa using q4)) HM.out.2 (fun j x hj h => can_lt G (dgs G _) hj h) (HDD.out.kp kX (by simpa using q5)) HCAN.out).mono ?_
                      rintro e w9 ⟨β, d', rfl, hd9, h19, h29, hk9⟩
                      have HF9 := hid (HFX.out.kp hk9 (by simpa using Ne.symm q5))
                      have c9 := HF9.out.cell hlcap (k := 3) (by omega)
                      have y9 := HF9.out.frozen (l * 5 + 3)
                      have H9 := hid (And.intro hd9 (And.intro h19 (And.intro h29 hk9)))
                      clear hd9 h19 h29 hk9 kX hwX d1 d2 hv8 q1 q2 q3 q4 q5 q6 q7
                      go_wp2
                      obtain ⟨hd9, h19, h29, hk9⟩ := H9.out
                      have HFn : FRow (w9.setCell ⟨pb, l * 5 + 3, none⟩ (.bool β)) pb cap V.m (updS P l { P l with dep := max (fr l).dep (D (fr l).cur + 1), more := β }) := by
                        have h := HF9.out.set3 l β
                        simp only [updS_updS, updS_same] at h
                        rw [HMX.out]
                        exact h
                      have hgp : (P l).gd ≠ pb := HQ.out.2.2.2.2.1
                      obtain ⟨P', fr', hn1, hn2⟩ := HI.out.adv G SP HMR.out (by rw [← HCR.out, ← HDC.out]; exact hv) HIXD.out h19 h29 (((KX.out.weaken (S' := [pb, (P l).gd]) (by simp)).trans hk9 (by simp)).setCell (.inl (by simp)) _) HFn (hd9.other (p := ⟨pb, l * 5 + 3, none⟩) hgp _)
                      go_roundg (mu V.C D (pathL fr' (l + 1)))
                      case measure => rw [HGK.out]; exact hn2
                      case rel => exact ⟨l + 1, cap, pb, P', fr', _, rfl, HPV.out.symm, hn1⟩
        · obtain rfl : V.C = k := by omega
          clear hds hix hI
          go_wp2
          go_ret
          exact ⟨db, D, rfl, hdl, HI.out.dep, HI.out.inv.final (fun i hi => HI.out.done i hi hi), HI.out.kp⟩
end Go.Proofs.Qxb6615056aDoor

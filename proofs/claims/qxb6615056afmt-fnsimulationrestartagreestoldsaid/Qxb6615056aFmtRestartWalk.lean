/-
  THE WALK OF FnSimulationRestartAgrees (5).
-/
import Derived.Test.Qxb6615056aFmtRun
namespace Go.Proofs.Qxb6615056aFmt
open Go.RowKit Go.Tocsin

theorem SlAt.drewN {w : World} {a : Option Addr} {n : Nat} {F : Nat → Value} (h : SlAt w a n F) (q : Nat) : SlAt (w.drewN q) a n F := h

set_option maxHeartbeats 4000000 in
set_option maxRecDepth 100000 in
theorem restart_walk (s : Int) (an af ai : Option Addr) (ln cn n cf li ci : Nat) (nx : Nat → Nat) (fb : Nat → Bool) (ini : Nat → Int) (steps split : Int) (w : World) (hln : ln ≤ maxLen) (hn : n ≤ maxLen) (hli : li ≤ maxLen) (hb : ∀ i, nx i < 256)
    (hN : SlAt w an ln (fun i => .int .u8 (nx i : Nat))) (hF : SlAt w af n (fun i => .bool (fb i))) (hI : SlAt w ai li (fun i => .int .i64 (ini i))) :
    Calls Tryf.prog 5 #[.int .i64 s, .slice an ln cn, .slice af n cf, .slice ai li ci, .int .i64 steps, .int .i64 split] w fun e w' => e = .returned (.bool true) ∧ Below w.heap.size w w' := by
  have HZ := hid (zzBytes25 s steps split an af ai ln cn n cf li ci w hln hn hli)
  have HN := hid hN
  have HF := hid hF
  have HI := hid hI
  have HB := hid hb
  clear hN hF hI hb hln hn hli
  go_enter Tryf.func5, Tryf.ntmps5
  go_wp2_with fail
  refine HZ.out.mono ?_
  rintro e w' ⟨⟨β, rfl, hβ⟩, rfl⟩
  cases β
  · clear hβ
    go_wp2
    go_ret
    exact ⟨rfl, Below.refl _ _⟩
  have hsum := hβ rfl
  clear hβ HZ
  by_cases hA : ((1048576 : Int) - (ln : Int) - (n : Int)) / 8 < (li : Int)
  · go_wp2
    all_goals go_ret
    all_goals exact ⟨rfl, Below.refl _ _⟩
  by_cases h1 : steps < 0
  · go_wp2
    go_ret
    exact ⟨rfl, Below.refl _ _⟩
  by_cases h2 : 65536 < steps
  · go_wp2
    go_ret
    exact ⟨rfl, Below.refl _ _⟩
  by_cases h3 : split < 0
  · go_wp2
    go_ret
    exact ⟨rfl, Below.refl _ _⟩
  by_cases h4 : steps < split
  · go_wp2
    go_ret
    exact ⟨rfl, Below.refl _ _⟩
  have HD := hid (simDomain_calls s an af ai ln cn n cf li ci nx fb ini w' (by omega) (by omega) (by omega) HB.out HN.out HF.out HI.out)
  go_wp2_with fail
  refine HD.out.mono ?_
  rintro e w'' ⟨⟨β, rfl, hβ⟩, rfl⟩
  cases β
  · clear hβ
    go_wp2
    go_ret
    exact ⟨rfl, Below.refl _ _⟩
  obtain ⟨S, D⟩ := hβ rfl
  clear hβ HD
  obtain rfl := D.hs
  obtain rfl := D.li_eq
  have hn1 := D.n1
  have hn2 := D.n2
  have hpos : 1 ≤ S ^ li := Nat.one_le_pow _ _ D.s1
  have hl1 : 1 ≤ ln := by rw [← D.shape]; exact Nat.mul_le_mul hpos hn1
  have hpn : S ^ li ≤ 1048576 := by
    have : S ^ li * 1 ≤ S ^ li * li := Nat.mul_le_mul_left _ hn1
    have := D.shape
    omega
  obtain ⟨bn, on, rfl, cN⟩ := HN.out (by omega)
  obtain ⟨bf, of', rfl, cF⟩ := HF.out (by omega)
  obtain ⟨bi, oi, rfl, cI⟩ := HI.out (by omega)
  have HCN := hid cN
  have HCF := hid cF
  have HCI := hid cI
  have HD := hid D
  clear cN cF cI D HN HF HI hpos
  go_wp2_with fail
  refine (cloneU8_some bn on ln cn (fun i => .int .u8 (nx i : Nat)) _ (by omega) (fun _ => rfl) HCN.out).mono ?_
  rintro e w1 ⟨g1, rfl, hg1, r1, k1⟩
  go_wp2_with fail
  refine (cloneBools_some bf of' li cf (fun i => .bool (fb i)) _ (by omega) (fun _ => rfl) (fun i h => k1.cell' (HCF.out i h) (by simp))).mono ?_
  rintro e w2 ⟨g2, rfl, hg2, r2, k2⟩
  go_wp2_with fail
  refine (cloneInts_some bi oi li ci (fun i => .int .i64 (ini i)) _ (by omega) (fun _ => rfl) (fun i h => k2.cell' (k1.cell' (HCI.out i h) (by simp)) (by simp))).mono ?_
  rintro e w3 ⟨g3, rfl, hg3, r3, k3⟩
  have R1 := hid ((r1.kp k2 (by simp)).kp k3 (by simp))
  have R2 := hid (r2.kp k3 (by simp))
  have R3 := hid r3
  have K3 := hid ((k1.trans k2 (by simp)).trans k3 (by simp))
  clear r1 r2 r3 k1 k2 k3 hg1 hg2 hg3 HCN HCF HCI
  go_wp2_with fail
  refine (cloneU8_some g1 0 ln ln (fun i => .int .u8 (nx i : Nat)) _ (by omega) (fun _ => rfl) (fun i h => by rw [Nat.zero_add]; exact R1.out.cell h)).mono ?_
  rintro e w4 ⟨g4, rfl, hg4, r4, k4⟩
  go_wp2_with fail
  refine (weightsFor_calls S li _ (HD.out.s1) (by omega) hpn).mono ?_
  rintro e w5 ⟨g5, rfl, hg5, r5, k5⟩
  go_wp2_with fail
  refine (bitsFor_calls S _).mono ?_
  rintro e w5' ⟨⟨bits, rfl⟩, rfl⟩
  go_wp2_with fail
  refine (newTable_calls li S ln g4 g5 nx bits _ (r4.kp k5 (by simp)) r5).mono ?_
  rintro e w6 ⟨tb, fl, rfl, htb, hfl, hT6, k6⟩
  have K6 := hid ((k4.trans k5 (by simp)).trans k6 (by simp))
  clear r4 r5 k4 k5 k6 hg4 hg5 htb hfl
  have HT6 := hid hT6
  clear hT6
  go_wp2_with fail
  refine (cloneBools_some g2 0 li li (fun i => .bool (fb i)) _ (by omega) (fun _ => rfl) (fun i h => by rw [Nat.zero_add]; exact K6.out.cell' (R2.out.cell h) (by simp))).mono ?_
  rintro e w7 ⟨g7, rfl, hg7, r7, k7⟩
  go_wp2_with fail
  refine (cloneInts_some g3 0 li li (fun i => .int .i64 (ini i)) _ (by omega) (fun _ => rfl) (fun i h => by rw [Nat.zero_add]; exact k7.cell' (K6.out.cell' (R3.out.cell h) (by simp)) (by simp))).mono ?_
  rintro e w8 ⟨g8, rfl, hg8, r8, k8⟩
  have T8 := hid ((HT6.out.kp k7 (by simp) (by simp) (by simp) (by simp)).kp k8 (by simp) (by simp) (by simp) (by simp))
  have R7 := hid (r7.kp k8 (by simp))
  have R8 := hid r8
  have K8 := hid (((K3.out.trans K6.out (by simp)).trans k7 (by simp)).trans k8 (by simp))
  have R18 := hid (((R1.out.kp K6.out (by simp)).kp k7 (by simp)).kp k8 (by simp))
  have R28 := hid (((R2.out.kp K6.out (by simp)).kp k7 (by simp)).kp k8 (by simp))
  clear r7 r8 k7 k8 hg7 hg8 HT6 K6 R1 R2 R3 K3
  go_wp2_with fail
  refine (newEquiv_calls tb g4 g5 fl li S ln g7 g8 nx fb ini _ hn1 hn2 HD.out.s1 HD.out.s2 T8.out R7.out R8.out HD.out.few HD.out.inis).mono ?_
  rintro e w9 ⟨B, rfl, hS9, k9⟩
  have hG : Hid (Ground w8.heap.size tb g4 g5 fl li S ln nx fb) := by
    have t := T8.out
    exact ⟨hn1, hn2, HD.out.s1, HD.out.s2, by omega, HD.out.shape, HD.out.nxs, HB.out, World.block_lt_of_cell? _ _ t.c0, t.next.lt, t.weights.lt, World.block_lt_of_cell? _ _ t.f0, correct_pos hn1 HD.out.few⟩
  have HOk := hid (st0_ok (n := li) HD.out.inis)
  have HS9 := hid hS9
  have HK9 := hid k9
  clear hS9 k9 R7 R8
  obtain ⟨P, rfl⟩ := Int.eq_ofNat_of_zero_le h1
  obtain ⟨Q, rfl⟩ := Int.eq_ofNat_of_zero_le h3
  have hQP : Q ≤ P := by omega
  have hP : P ≤ 65536 := by omega
  obtain ⟨st, hst⟩ : ∃ st, st = st0 fb ini := ⟨_, rfl⟩
  rw [← hst] at HS9 HOk
  have HST := hid hst
  clear hst
  go_wp2_with fail
  go_loopw [17] (fun i wr => ∃ j : Nat, j ≤ Q ∧ i = .int .i64 j ∧ SimAt wr w8.heap.size B tb li S fb (j : Nat) (runF li S nx fb st j) ∧ Kp [] w8 wr) (fun i _ => Q - (intOf i).toNat)
  case atStart => exact ⟨0, by omega, rfl, HS9.out, HK9.out⟩
  case round =>
    obtain ⟨j, hj, rfl, hS, hk⟩ := hrel
    have HS := hid hS
    have HK := hid hk
    clear hS hk
    by_cases hlt : j < Q
    · go_wp2_with (go_at_call 20; refine (stepRun hG.out rfl (by omega) T8.out HK.out HS.out HOk.out).mono ?_; rintro e w10 ⟨rfl, hS', hk', _⟩)
      go_roundw
      case rel => exact ⟨j + 1, by omega, by go_num, hS', hk'⟩
      case measure => simp [intOf]; omega
    · obtain rfl : Q = j := by omega
      go_wp2_with fail
      refine (simStates_calls _ _ _ _ B _ _ _ _ HS.out).mono ?_
      rintro e w10 ⟨rfl, rfl⟩
      go_wp2_with fail
      refine (cloneInts_some B.stb 0 li li (fun i => .int .i64 (runF li S nx fb st Q i)) _ (by omega) (fun _ => rfl) (fun i h => by rw [Nat.zero_add]; exact HS.out.st.cell h)).mono ?_
      rintro e w11 ⟨gm, rfl, hgm, rm, km⟩
      have H11 := hid (HS.out.kp km)
      have HK11 := hid (HK.out.trans km (by simp))
      have RM := hid rm
      have hlt10 := HS.out.lt
      clear rm HS HK
      have hgmn : Hid (gm ∉ B.written) := fun hm => by have := hlt10 gm hm; omega
      clear hgm km hlt10
      go_wp2_with fail
      go_loopw [19] (fun i wr => ∃ j : Nat, Q ≤ j ∧ j ≤ P ∧ i = .int .i64 j ∧ SimAt wr w8.heap.size B tb li S fb (j : Nat) (runF li S nx fb st j) ∧ Kp [] w8 wr ∧ Row wr gm 3 li (fun i => .int .i64 (runF li S nx fb st Q i))) (fun i _ => P - (intOf i).toNat)
      case atStart => exact ⟨Q, by omega, by omega, rfl, H11.out, HK11.out, RM.out⟩
      case round =>
        obtain ⟨j, hj1, hj2, rfl, hS, hk, hr⟩ := hrel
        have HS := hid hS
        have HK := hid hk
        have HR := hid hr
        clear hS hk hr
        by_cases hlt : j < P
        · go_wp2_with (go_at_call 20; refine (stepRun hG.out rfl (by omega) T8.out HK.out HS.out HOk.out).mono ?_; rintro e w12 ⟨rfl, hS', hk', hkw⟩)
          go_roundw
          case rel => exact ⟨j + 1, by omega, by omega, by go_num, hS', hk', HR.out.kp hkw hgmn.out⟩
          case measure => simp [intOf]; omega
        · obtain rfl : P = j := by omega
          have R1 := hid (R18.out.kp HK.out (by simp))
          have R2 := hid (R28.out.kp HK.out (by simp))
          clear R18 R28 H11 HK11 RM hgmn HS9 HK9
          go_wp2_with fail
          refine (cloneU8_some g1 0 ln ln (fun i => .int .u8 (nx i : Nat)) _ (by omega) (fun _ => rfl) (fun i h => by rw [Nat.zero_add]; exact R1.out.cell h)).mono ?_
          rintro e w14 ⟨g14, rfl, hg14, r14, k14⟩
          go_wp2_with fail
          refine (weightsFor_calls S li _ (HD.out.s1) (by omega) hpn).mono ?_
          rintro e w15 ⟨g15, rfl, hg15, r15, k15⟩
          go_wp2_with fail
          refine (bitsFor_calls S _).mono ?_
          rintro e w15' ⟨⟨bits2, rfl⟩, rfl⟩
          go_wp2_with fail
          refine (newTable_calls li S ln g14 g15 nx bits2 _ (r14.kp k15 (by simp)) r15).mono ?_
          rintro e w16 ⟨tb2, fl2, rfl, htb2, hfl2, hT16, k16⟩
          have K16 := hid ((k14.trans k15 (by simp)).trans k16 (by simp))
          have HT16 := hid hT16
          clear r14 r15 k14 k15 k16 hg14 hg15 htb2 hfl2 hT16
          go_wp2_with fail
          refine (cloneBools_some g2 0 li li (fun i => .bool (fb i)) _ (by omega) (fun _ => rfl) (fun i h => by rw [Nat.zero_add]; exact K16.out.cell' (R2.out.cell h) (by simp))).mono ?_
          rintro e w17 ⟨g17, rfl, hg17, r17, k17⟩
          have T17 := hid (HT16.out.kp k17 (by simp) (by simp) (by simp) (by simp))
          have R17 := hid r17
          have K17 := hid (K16.out.trans k17 (by simp))
          have HMid := hid ((HR.out.kp K16.out (by simp)).kp k17 (by simp))
          have HS17 := hid ((HS.out.kp K16.out).kp k17)
          have HK17 := hid (HK.out.trans K17.out (by simp))
          clear r17 k17 hg17 HT16 K16 HR HS HK R1 R2
          have HOkM := hid (runF_ok HOk.out HD.out.shape HD.out.nxs Q)
          go_wp2_with fail
          refine (newEquiv_calls tb2 g14 g15 fl2 li S ln g17 gm nx fb (runF li S nx fb st Q) _ hn1 hn2 HD.out.s1 HD.out.s2 T17.out R17.out HMid.out HD.out.few HOkM.out.c).mono ?_
          rintro e w19 ⟨B2, rfl, hS19, k19⟩
          have hG2 : Hid (Ground w17.heap.size tb2 g14 g15 fl2 li S ln nx fb) := by
            have t := T17.out
            exact ⟨hn1, hn2, HD.out.s1, HD.out.s2, by omega, HD.out.shape, HD.out.nxs, HB.out, World.block_lt_of_cell? _ _ t.c0, t.next.lt, t.weights.lt, World.block_lt_of_cell? _ _ t.f0, correct_pos hn1 HD.out.few⟩
          obtain ⟨st2, hst2⟩ : ∃ st2, st2 = st0 fb (runF li S nx fb st Q) := ⟨_, rfl⟩
          have HOk2 : Hid (StOk li S fb st2) := by rw [hst2]; exact st0_ok HOkM.out.c
          have HEq : Hid (∀ v, v < li → st2 v = runF li S nx fb st Q v) := fun v hv => by
            rw [hst2]
            unfold st0
            cases hb : fb v
            · simp
            · simp [HOkM.out.f v hv hb]
          rw [← hst2] at hS19
          have HS19 := hid hS19
          have HK19 := hid k19
          clear hS19 k19 hst2
          go_wp2_with fail
          go_loopw [23] (fun i wr => ∃ j : Nat, j ≤ P - Q ∧ i = .int .i64 ((Q + j : Nat) : Int) ∧ SimAt wr w17.heap.size B2 tb2 li S fb (j : Nat) (runF li S nx fb st2 j) ∧ Kp [] w17 wr) (fun i _ => P - (intOf i).toNat)
          case atStart => exact ⟨0, by omega, rfl, HS19.out, HK19.out⟩
          case round =>
            obtain ⟨j, hj, rfl, hS, hk⟩ := hrel
            have HSb := hid hS
            have HKb := hid hk
            clear hS hk
            by_cases hlt : Q + j < P
            · go_wp2_with (go_at_call 20; refine (stepRun hG2.out rfl (by omega) T17.out HKb.out HSb.out HOk2.out).mono ?_; rintro e w20 ⟨rfl, hS', hk', _⟩)
              go_roundw
              case rel => exact ⟨j + 1, by omega, by go_num, hS', hk'⟩
              case measure => simp [intOf]; omega
            · obtain rfl : j = P - Q := by omega
              have HSa := hid (HS17.out.kp HKb.out)
              have hfin : ∀ v, v < li → runF li S nx fb st2 (P - Q) v = runF li S nx fb st P v := fun v hv => by
                rw [runF_congr HEq.out (P - Q) v hv, runF_add, show Q + (P - Q) = P by omega]
              have HFin := hid hfin
              rw [show ((P - Q : Nat) : Int) = (P : Int) - (Q : Int) by omega] at HSb
              clear hfin
              go_wp2_with fail
              refine (simRound_calls _ _ _ _ B _ _ _ _ HSa.out).mono ?_
              rintro e w21 ⟨rfl, rfl⟩
              go_wp2_with fail
              refine (simRound_calls _ _ _ _ B2 _ _ _ _ HSb.out).mono ?_
              rintro e w22 ⟨rfl, rfl⟩
              go_wp2_with fail
              refine (simStates_calls _ _ _ _ B _ _ _ _ HSa.out).mono ?_
              rintro e w23 ⟨rfl, rfl⟩
              go_wp2_with fail
              refine (simStates_calls _ _ _ _ B2 _ _ _ _ HSb.out).mono ?_
              rintro e w24 ⟨rfl, rfl⟩
              go_wp2_with fail
              refine (sameInts_calls B.stb B2.stb li li li (runF li S nx fb st P) _ (by omega) (fun i h => HSa.out.st.cell h) (fun i h => by rw [← HFin.out i h]; exact HSb.out.st.cell h)).mono ?_
              rintro e w25 ⟨rfl, q, rfl⟩
              go_wp2_with fail
              go_ret
              exact ⟨rfl, (((K8.out.trans HK17.out (by simp)).trans HKb.out (by simp)).drewN q).below (Nat.le_refl _) (by simp)⟩

end Go.Proofs.Qxb6615056aFmt

/-
  THE WALK OF FnSimulationStepMatchesModel (4).
-/
import Derived.Test.Qxb6615056aFmtModel
namespace Go.Proofs.Qxb6615056aFmt
open Go.RowKit Go.Tocsin

set_option maxHeartbeats 4000000 in
set_option maxRecDepth 100000 in
theorem stepm_walk (s : Int) (an af ai : Option Addr) (ln cn n cf li ci : Nat) (nx : Nat → Nat) (fb : Nat → Bool) (ini : Nat → Int) (steps : Int) (w : World) (hln : ln ≤ maxLen) (hn : n ≤ maxLen) (hli : li ≤ maxLen) (hb : ∀ i, nx i < 256)
    (hN : SlAt w an ln (fun i => .int .u8 (nx i : Nat))) (hF : SlAt w af n (fun i => .bool (fb i))) (hI : SlAt w ai li (fun i => .int .i64 (ini i))) :
    Calls Tryf.prog 4 #[.int .i64 s, .slice an ln cn, .slice af n cf, .slice ai li ci, .int .i64 steps] w fun e w' => e = .returned (.bool true) ∧ Below w.heap.size w w' := by
  have HZ := hid (zzBytes12 s steps an af ai ln cn n cf li ci w hln hn hli)
  have HN := hid hN
  have HF := hid hF
  have HI := hid hI
  have HB := hid hb
  clear hN hF hI hb hln hn hli
  go_enter Tryf.func4, Tryf.ntmps4
  go_wp2_with fail
  refine HZ.out.mono ?_
  rintro e w' ⟨⟨β, rfl, hβ⟩, rfl⟩
  cases β
  · clear hβ
    go_wp2
    go_ret
    exact ⟨rfl, Below.refl _ _⟩
  have hsum := hβ rfl
  clear hβ HZ
  by_cases hA : ((1048576 : Int) - (ln : Int) - (n : Int)) / 8 < (li : Int)
  · go_wp2
    all_goals go_ret
    all_goals exact ⟨rfl, Below.refl _ _⟩
  by_cases h1 : steps < 0
  · go_wp2
    go_ret
    exact ⟨rfl, Below.refl _ _⟩
  by_cases h2 : 65536 < steps
  · go_wp2
    go_ret
    exact ⟨rfl, Below.refl _ _⟩
  have HD := hid (simDomain_calls s an af ai ln cn n cf li ci nx fb ini w' (by omega) (by omega) (by omega) HB.out HN.out HF.out HI.out)
  go_wp2_with fail
  refine HD.out.mono ?_
  rintro e w'' ⟨⟨β, rfl, hβ⟩, rfl⟩
  cases β
  · clear hβ
    go_wp2
    go_ret
    exact ⟨rfl, Below.refl _ _⟩
  obtain ⟨S, D⟩ := hβ rfl
  clear hβ HD
  obtain rfl := D.hs
  obtain rfl := D.li_eq
  have hn1 := D.n1
  have hn2 := D.n2
  have hpos : 1 ≤ S ^ li := Nat.one_le_pow _ _ D.s1
  have hl1 : 1 ≤ ln := by rw [← D.shape]; exact Nat.mul_le_mul hpos hn1
  have hpn : S ^ li ≤ 1048576 := by
    have : S ^ li * 1 ≤ S ^ li * li := Nat.mul_le_mul_left _ hn1
    have := D.shape
    omega
  obtain ⟨bn, on, rfl, cN⟩ := HN.out (by omega)
  obtain ⟨bf, of', rfl, cF⟩ := HF.out (by omega)
  obtain ⟨bi, oi, rfl, cI⟩ := HI.out (by omega)
  have HCN := hid cN
  have HCF := hid cF
  have HCI := hid cI
  have HD := hid D
  clear cN cF cI D HN HF HI hpos
  go_wp2_with fail
  refine (cloneU8_some bn on ln cn (fun i => .int .u8 (nx i : Nat)) _ (by omega) (fun _ => rfl) HCN.out).mono ?_
  rintro e w1 ⟨g1, rfl, hg1, r1, k1⟩
  go_wp2_with fail
  refine (cloneBools_some bf of' li cf (fun i => .bool (fb i)) _ (by omega) (fun _ => rfl) (fun i h => k1.cell' (HCF.out i h) (by simp))).mono ?_
  rintro e w2 ⟨g2, rfl, hg2, r2, k2⟩
  go_wp2_with fail
  refine (cloneInts_some bi oi li ci (fun i => .int .i64 (ini i)) _ (by omega) (fun _ => rfl) (fun i h => k2.cell' (k1.cell' (HCI.out i h) (by simp)) (by simp))).mono ?_
  rintro e w3 ⟨g3, rfl, hg3, r3, k3⟩
  have R1 := hid ((r1.kp k2 (by simp)).kp k3 (by simp))
  have R2 := hid (r2.kp k3 (by simp))
  have R3 := hid r3
  have K3 := hid ((k1.trans k2 (by simp)).trans k3 (by simp))
  clear r1 r2 r3 k1 k2 k3 hg1 hg2 hg3 HCN HCF HCI
  go_wp2_with fail
  refine (cloneU8_some g1 0 ln ln (fun i => .int .u8 (nx i : Nat)) _ (by omega) (fun _ => rfl) (fun i h => by rw [Nat.zero_add]; exact R1.out.cell h)).mono ?_
  rintro e w4 ⟨g4, rfl, hg4, r4, k4⟩
  go_wp2_with fail
  refine (weightsFor_calls S li _ (HD.out.s1) (by omega) hpn).mono ?_
  rintro e w5 ⟨g5, rfl, hg5, r5, k5⟩
  go_wp2_with fail
  refine (bitsFor_calls S _).mono ?_
  rintro e w5' ⟨⟨bits, rfl⟩, rfl⟩
  go_wp2_with fail
  refine (newTable_calls li S ln g4 g5 nx bits _ (r4.kp k5 (by simp)) r5).mono ?_
  rintro e w6 ⟨tb, fl, rfl, htb, hfl, hT6, k6⟩
  have K6 := hid ((k4.trans k5 (by simp)).trans k6 (by simp))
  clear r4 r5 k4 k5 k6 hg4 hg5 htb hfl
  have HT6 := hid hT6
  clear hT6
  go_wp2_with fail
  refine (cloneBools_some g2 0 li li (fun i => .bool (fb i)) _ (by omega) (fun _ => rfl) (fun i h => by rw [Nat.zero_add]; exact K6.out.cell' (R2.out.cell h) (by simp))).mono ?_
  rintro e w7 ⟨g7, rfl, hg7, r7, k7⟩
  go_wp2_with fail
  refine (cloneInts_some g3 0 li li (fun i => .int .i64 (ini i)) _ (by omega) (fun _ => rfl) (fun i h => by rw [Nat.zero_add]; exact k7.cell' (K6.out.cell' (R3.out.cell h) (by simp)) (by simp))).mono ?_
  rintro e w8 ⟨g8, rfl, hg8, r8, k8⟩
  have T8 := hid ((HT6.out.kp k7 (by simp) (by simp) (by simp) (by simp)).kp k8 (by simp) (by simp) (by simp) (by simp))
  have R7 := hid (r7.kp k8 (by simp))
  have R8 := hid r8
  have K8 := hid (((K3.out.trans K6.out (by simp)).trans k7 (by simp)).trans k8 (by simp))
  have R38 := hid (((R3.out.kp K6.out (by simp)).kp k7 (by simp)).kp k8 (by simp))
  have R18 := hid (((R1.out.kp K6.out (by simp)).kp k7 (by simp)).kp k8 (by simp))
  have R28 := hid (((R2.out.kp K6.out (by simp)).kp k7 (by simp)).kp k8 (by simp))
  clear r7 r8 k7 k8 hg7 hg8 HT6 K6 R1 R2 R3 K3
  go_wp2_with fail
  refine (newEquiv_calls tb g4 g5 fl li S ln g7 g8 nx fb ini _ hn1 hn2 HD.out.s1 HD.out.s2 T8.out R7.out R8.out HD.out.few HD.out.inis).mono ?_
  rintro e w9 ⟨B, rfl, hS9, k9⟩
  have hG : Hid (Ground w8.heap.size tb g4 g5 fl li S ln nx fb) := by
    have t := T8.out
    exact ⟨hn1, hn2, HD.out.s1, HD.out.s2, by omega, HD.out.shape, HD.out.nxs, HB.out, World.block_lt_of_cell? _ _ t.c0, t.next.lt, t.weights.lt, World.block_lt_of_cell? _ _ t.f0, correct_pos hn1 HD.out.few⟩
  have HOk := hid (st0_ok (n := li) HD.out.inis)
  have HS9 := hid hS9
  have HK9 := hid k9
  clear hS9 k9 R7 R8
  obtain ⟨P, rfl⟩ := Int.eq_ofNat_of_zero_le h1
  have hP : P ≤ 65536 := by omega
  obtain ⟨st, hst⟩ : ∃ st, st = st0 fb ini := ⟨_, rfl⟩
  rw [← hst] at HS9 HOk
  have HST := hid hst
  obtain ⟨i0, hi, hz0, hz1, hz2⟩ := info_parts Tryf.info3
  clear hst
  go_wp2_with (at_make; refine wpList_make_row _ rfl _ _ 22 rfl 3 i0 (.int .i64 0) 1 Tryf.underlying22 hi hz0 hz1 _ _ _ _ li rfl rfl rfl rfl (by rw [hz2]; omega) (by unfold maxLen; omega) (fun _ => .int .i64 0) (by rw [Nat.mul_one]; exact madeCells_one _ _) ?_; intro w10 hr10 hk10 hs10)
  rw [Nat.mul_one] at hr10
  obtain ⟨gc, hgc⟩ : ∃ gc, gc = w9.heap.size := ⟨_, rfl⟩
  rw [← hgc] at hr10
  rw [← hgc]
  have K910 := hid hk10
  have hgc9 : w9.heap.size ≤ gc := by omega
  have HK10 := hid (HK9.out.trans hk10 (by simp))
  have hgcw : Hid (gc ∉ B.written) := fun hm => by have := HS9.out.lt gc hm; omega
  have hgc8 : w8.heap.size ≤ gc := by have := HK9.out.size; omega
  have R10 := hid hr10
  clear hr10 hk10 hs10 hgc HK9
  go_loopw [16] (fun i wr => ∃ k : Nat, k ≤ li ∧ i = .int .i64 k ∧ Row wr gc 3 li (fun v => .int .i64 (if v < k then st v else 0)) ∧ Kp [gc] w10 wr) (fun i _ => li - (intOf i).toNat)
  case atStart => exact ⟨0, by omega, rfl, R10.out.congr (fun v _ => by simp), Kp.refl _ _⟩
  case round =>
    obtain ⟨k, hk, rfl, hr, hkp⟩ := hrel
    have HR := hid hr
    have HKr := hid hkp
    by_cases hlt : k < li
    · have hc := hr.cell hlt
      have hf := hr.frozen k
      have n3 : ¬ g3 = gc := fun e => by have := R38.out.lt; omega
      have n3' : ¬ gc = g3 := fun e => n3 e.symm
      have n2 : ¬ g2 = gc := fun e => by have := R28.out.lt; omega
      have n2' : ¬ gc = g2 := fun e => n2 e.symm
      have hci := hkp.cell' (HK10.out.cell' (R38.out.cell hlt) (by simp)) (by simpa using n3)
      have hcf := hkp.cell' (HK10.out.cell' (R28.out.cell hlt) (by simp)) (by simpa using n2)
      clear hr hkp
      cases hb : fb k
      · rw [hb] at hcf
        have HBk := hid hb
        clear hb
        go_wp2
        go_roundw
        case rel =>
          refine ⟨k + 1, by omega, by go_num, (HR.out.set k _).congr (fun v hv => ?_), HKr.out.setCell (.inl (by simp)) _⟩
          by_cases e : v = k
          · subst e; rw [if_pos rfl, if_pos (by omega), HST.out]; simp [st0, HBk.out]
          · rw [if_neg e]
            by_cases e2 : v < k
            · rw [if_pos e2, if_pos (by omega)]
            · rw [if_neg e2, if_neg (by omega)]
        case measure => simp [intOf]; omega
      · rw [hb] at hcf
        have HBk := hid hb
        obtain ⟨val, hval⟩ := show ∃ v', (wr.setCell ⟨gc, k, none⟩ (.int .i64 (ini k))).cell? ⟨gc, k, none⟩ = some v' from ⟨_, (HR.out.set k (.int .i64 (ini k))).cell hlt⟩
        have hf2 := (HR.out.set k (.int .i64 (ini k))).frozen k
        clear hb
        go_wp2
        go_roundw
        case rel =>
          refine ⟨k + 1, by omega, by go_num, ((HR.out.set k _).set k _).congr (fun v hv => ?_), (HKr.out.setCell (.inl (by simp)) _).setCell (.inl (by simp)) _⟩
          by_cases e : v = k
          · subst e; rw [if_pos rfl, if_pos (by omega), HST.out]; simp [st0, HBk.out]
          · rw [if_neg e, if_neg e]
            by_cases e2 : v < k
            · rw [if_pos e2, if_pos (by omega)]
            · rw [if_neg e2, if_neg (by omega)]
        case measure => simp [intOf]; omega
    · obtain rfl : li = k := by omega
      have RC := hid (hr.congr (G := fun v => .int .i64 (runF li S nx fb st 0 v)) (fun v hv => by rw [if_pos hv]; rfl))
      have HKC := hid (HK10.out.trans hkp (by simpa using hgc8))
      have HSC : Hid (SimAt wr w8.heap.size B tb li S fb ((0 : Nat) : Int) (runF li S nx fb st 0)) := HS9.out.kp (K910.out.trans hkp (by simpa using hgc9))
      clear hr hkp HS9 K910 HK10 R10 HR HKr hgc9 hgc8
      go_wp2
      go_loopw [15, 17] (fun c i wq => ∃ k j gq : Nat, k ≤ P + 1 ∧ j = k - 1 ∧ i = .int .i64 k ∧ c = .slice (some ⟨gq, 0, none⟩) li li ∧ SimAt wq w8.heap.size B tb li S fb (j : Nat) (runF li S nx fb st j) ∧ Row wq gq 3 li (fun v => .int .i64 (runF li S nx fb st j v)) ∧ gq ∉ B.written ∧ Kp [] w8 wq) (fun _ i _ => P + 1 - (intOf i).toNat)
      case atStart => exact ⟨0, 0, gc, by omega, rfl, rfl, rfl, HSC.out, RC.out, hgcw.out, HKC.out⟩
      case round =>
        obtain ⟨k, j, gq, hk, hj, rfl, rfl, hS, hr, hnw, hkp⟩ := hrel
        have HSq := hid hS
        have HRq := hid hr
        have HNw := hid hnw
        have HKq := hid hkp
        have HJ := hid hj
        clear hS hr hnw hkp hj HSC RC HKC hgcw
        by_cases hkP : k ≤ P
        · by_cases hk0 : k = 0
          · subst hk0
            obtain rfl : j = 0 := by have := HJ.out; omega
            go_wp2_with fail
            refine (simRound_calls _ _ _ _ B _ _ _ _ HSq.out).mono ?_
            rintro e w21 ⟨rfl, rfl⟩
            go_wp2_with fail
            refine (simStates_calls _ _ _ _ B _ _ _ _ HSq.out).mono ?_
            rintro e w23 ⟨rfl, rfl⟩
            go_wp2_with fail
            refine (sameInts_calls B.stb gq li li li (runF li S nx fb st 0) _ (by omega) (fun i h => HSq.out.st.cell h) (fun i h => HRq.out.cell h)).mono ?_
            rintro e w25 ⟨rfl, q, rfl⟩
            go_wp2_with fail
            go_roundw
            case rel => exact ⟨1, 0, gq, by omega, rfl, rfl, rfl, HSq.out.kp ((Kp.refl [] _).drewN q), HRq.out.drewN q, HNw.out, HKq.out.drewN q⟩
            case measure => simp [intOf]
          · obtain rfl : k = j + 1 := by have := HJ.out; omega
            have hkI : (0 : Int) < (j : Int) + 1 := by omega
            go_wp2_with fail
            refine (stepRun hG.out rfl (by omega) T8.out HKq.out HSq.out HOk.out).mono ?_
            rintro e w20 ⟨rfl, hS', hk', hkw⟩
            have HS' := hid hS'
            have HK' := hid hk'
            have HR' := hid (HRq.out.kp hkw HNw.out)
            have HOkj := hid (runF_ok HOk.out HD.out.shape HD.out.nxs j)
            clear hS' hk' hkw HSq HRq HNw HKq
            go_wp2_with fail
            refine (stepModel_calls S li ln g1 g2 gq nx fb (runF li S nx fb st j) _ hn1 hn2 HD.out.s1 HD.out.s2 (by omega) HD.out.shape HB.out (correct_pos hn1 HD.out.few) (R18.out.kp HK'.out (by simp)) (R28.out.kp HK'.out (by simp)) HR'.out HOkj.out).mono ?_
            rintro e w26 ⟨gn, rfl, hgn, rn, kn⟩
            have HSn := hid (HS'.out.kp kn)
            have HKn := hid (HK'.out.trans kn (by simp))
            have HRn := hid rn
            have HNn : Hid (gn ∉ B.written) := fun hm => by have := HS'.out.lt gn hm; omega
            clear HS' HK' HR' rn kn hgn
            go_wp2_with fail
            refine (simRound_calls _ _ _ _ B _ _ _ _ HSn.out).mono ?_
            rintro e w21 ⟨rfl, rfl⟩
            go_wp2_with fail
            refine (simStates_calls _ _ _ _ B _ _ _ _ HSn.out).mono ?_
            rintro e w23 ⟨rfl, rfl⟩
            go_wp2_with fail
            refine (sameInts_calls B.stb gn li li li (runF li S nx fb st (j + 1)) _ (by omega) (fun i h => HSn.out.st.cell h) (fun i h => HRn.out.cell h)).mono ?_
            rintro e w25 ⟨rfl, q, rfl⟩
            go_wp2_with fail
            go_roundw
            case rel => exact ⟨j + 1 + 1, j + 1, gn, by omega, rfl, by go_num, rfl, HSn.out.kp ((Kp.refl [] _).drewN q), HRn.out.drewN q, HNn.out, HKn.out.drewN q⟩
            case measure => simp [intOf]; omega
        · go_wp2
          go_ret
          exact ⟨rfl, (K8.out.trans HKq.out (by simp)).below (Nat.le_refl _) (by simp)⟩

end Go.Proofs.Qxb6615056aFmt

/-
  THE WALK OF FnDepthsBoundEquivocationRuns (6).
-/
import Derived.Test.Qxb6615056aFmtBoundParts
import Derived.Deep.CutRange
namespace Go.Proofs.Qxb6615056aFmt
open Go.RowKit Go.Tocsin

set_option maxHeartbeats 8000000 in
set_option maxRecDepth 100000 in
theorem bound_walk (s : Int) (an af : Option Addr) (ln cn n cf : Nat) (nx : Nat → Nat) (fb : Nat → Bool) (md : Int) (w : World) (hln : ln ≤ maxLen) (hn : n ≤ maxLen) (hb : ∀ i, nx i < 256)
    (hN : SlAt w an ln (fun i => .int .u8 (nx i : Nat))) (hF : SlAt w af n (fun i => .bool (fb i))) (hTab : TabAt w) :
    Calls Tryf.prog 6 #[.int .i64 s, .slice an ln cn, .slice af n cf, .int .i64 md] w fun e w' => e = .returned (.bool true) ∧ Below w.heap.size w w' := by
  have HZ := hid (zzBytes26 s md an af ln cn n cf w hln hn)
  have HN := hid hN
  have HF := hid hF
  have HB := hid hb
  have HTab := hid hTab
  clear hN hF hb hln hn hTab
  go_enter Tryf.func6, Tryf.ntmps6
  go_wp2_with fail
  refine HZ.out.mono ?_
  rintro e w' ⟨⟨β, rfl, hβ⟩, hw⟩
  have hw' := hw.symm
  subst hw'
  clear hw
  cases β
  · clear hβ
    go_wp2
    go_ret
    exact ⟨rfl, Below.refl _ _⟩
  have hsum := hβ rfl
  clear hβ HZ
  have HD := hid (verifDomain_calls s an af ln cn n cf nx fb w (by omega) (by omega) HB.out HN.out HF.out)
  go_wp2_with fail
  refine HD.out.mono ?_
  rintro e w' ⟨⟨c, β, rfl, hβ⟩, hw⟩
  have hw' := hw.symm
  subst hw'
  clear hw
  cases β
  · clear hβ
    go_wp2
    go_ret
    exact ⟨rfl, Below.refl _ _⟩
  obtain ⟨S, C, rfl, D⟩ := hβ rfl
  clear hβ HD
  obtain rfl := D.hs
  have hn1 := D.n1
  have hpos : 1 ≤ S ^ n := Nat.one_le_pow _ _ D.s1
  have hl1 : 1 ≤ ln := by rw [← D.shape]; exact Nat.mul_le_mul hpos hn1
  have hpn : S ^ n ≤ 1048576 := by
    have : S ^ n * 1 ≤ S ^ n * n := Nat.mul_le_mul_left _ hn1
    have := D.shape
    omega
  obtain ⟨bn, on, rfl, cN⟩ := HN.out (by omega)
  obtain ⟨bf, of', rfl, cF⟩ := HF.out (by omega)
  have HCN := hid cN
  have HCF := hid cF
  have HD := hid D
  have hm1 : 1 ≤ cw fb false n := correct_pos hn1 D.few
  have hcle := cw_le (fb := fb) (want := false) n
  have hcle2 := cw_le (fb := fb) (want := true) n
  have hs1 := D.s1
  have hs2 := D.s2
  have hC2 := D.C2
  clear cN cF D HN HF hpos
  go_wp2_with fail
  refine (cloneU8_some bn on ln cn (fun i => .int .u8 (nx i : Nat)) _ (by omega) (fun _ => rfl) HCN.out).mono ?_
  rintro e w1 ⟨g1, rfl, hg1, r1, k1⟩
  go_wp2_with fail
  refine (cloneBools_some bf of' n cf (fun i => .bool (fb i)) _ (by omega) (fun _ => rfl) (fun i h => k1.cell' (HCF.out i h) (by simp))).mono ?_
  rintro e w2 ⟨g2, rfl, hg2, r2, k2⟩
  have R1 := hid (r1.kp k2 (by simp))
  have R2 := hid r2
  have K2 := hid (k1.trans k2 (by simp))
  clear r1 r2 k1 k2 hg1 hg2 HCN HCF
  go_wp2_with fail
  refine (idsWhere_calls g2 n n fb false _ (by omega) (fun i h => R2.out.cell h)).mono ?_
  rintro e w3 ⟨a3, c3, rfl, o3, b3, k3⟩
  obtain ⟨a3', c3', e3, hel3⟩ := o3.elim
  obtain ⟨kb0, rfl, hkbl, hkc⟩ := hel3 hm1
  cases e3
  have HKC := hid hkc
  clear o3 hel3 hkc b3 hkbl
  go_wp2_with fail
  refine (idsWhere_calls g2 n n fb true _ (by omega) (fun i h => k3.cell' (R2.out.cell h) (by simp))).mono ?_
  rintro e w4 ⟨a4, c4, rfl, o4, b4, k4⟩
  have O4 := hid o4
  have HKC4 : Hid (∀ i, i < cw fb false n → w4.cell? ⟨kb0, i, none⟩ = some (.int .i64 (nth fb false n i : Nat))) := fun i h => k4.cell' (HKC.out i h) (by simp)
  have R14 := hid ((R1.out.kp k3 (by simp)).kp k4 (by simp))
  have R24 := hid ((R2.out.kp k3 (by simp)).kp k4 (by simp))
  have K4 := hid ((K2.out.trans k3 (by simp)).trans k4 (by simp))
  clear o4 b4 k3 k4 R1 R2 K2 HKC
  go_wp2_with fail
  refine (cloneU8_some g1 0 ln ln (fun i => .int .u8 (nx i : Nat)) _ (by omega) (fun _ => rfl) (fun i h => by rw [Nat.zero_add]; exact R14.out.cell h)).mono ?_
  rintro e w5 ⟨g5, rfl, hg5, r5, k5⟩
  go_wp2_with fail
  refine (weightsFor_calls S n _ hs1 (by omega) hpn).mono ?_
  rintro e w6 ⟨g6, rfl, hg6, r6, k6⟩
  go_wp2_with fail
  refine (bitsFor_calls S _).mono ?_
  rintro e w6' ⟨⟨bits, rfl⟩, hw⟩
  have hw' := hw.symm
  subst hw'
  clear hw
  go_wp2_with fail
  refine (newTable_calls n S ln g5 g6 nx bits _ (r5.kp k6 (by simp)) r6).mono ?_
  rintro e w7 ⟨tb, fl, rfl, htb, hfl, hT7, k7⟩
  have K7 := hid ((k5.trans k6 (by simp)).trans k7 (by simp))
  have HT7 := hid hT7
  clear r5 r6 k5 k6 k7 hg5 hg6 htb hfl hT7
  obtain ⟨i0, hi, hz0, hz1, hz2⟩ := info_parts Tryf.info3
  obtain ⟨Z, HZ, rZ⟩ := make_run (P := Tryf.prog) 22 3 i0 _ 1 Tryf.underlying22 hi hz0 hz1 (n : Int) n rfl (by rw [hz2]; omega) (by unfold maxLen; omega) (fun _ => .int .i64 0) (by rw [Nat.mul_one]; exact madeCells_one _ _)
  rw [Nat.mul_one] at HZ
  have HB15 : Hid (∀ w', Kp [] w7 w' → Calls Tryf.prog 15 #[.slice (some ⟨g2, 0, none⟩) n n] w' fun e w'' => ∃ g, e = .returned (.slice (some ⟨g, 0, none⟩) n n) ∧ w'.heap.size ≤ g ∧ Row w'' g 4 n (fun i => .bool (fb i)) ∧ Kp [] w' w'' ∧ Kp [] w7 w'') := fun w' hk => by
    refine (cloneBools_some g2 0 n n (fun i => .bool (fb i)) w' (by omega) (fun _ => rfl) (fun i h => by rw [Nat.zero_add]; exact hk.cell' (K7.out.cell' (R24.out.cell h) (by simp)) (by simp))).mono ?_
    rintro e w'' ⟨g, rfl, h1, h2, h3⟩
    exact ⟨g, rfl, h1, h2, h3, hk.trans h3 (by simp)⟩
  have HB8k : Hid (∀ w', Kp [] w7 w' → Calls Tryf.prog 8 #[.slice (some ⟨kb0, 0, none⟩) (cw fb false n) c3] w' fun e w'' => ∃ g, e = .returned (.slice (some ⟨g, 0, none⟩) (cw fb false n) (cw fb false n)) ∧ w'.heap.size ≤ g ∧ Row w'' g 3 (cw fb false n) (fun i => .int .i64 (nth fb false n i : Nat)) ∧ Kp [] w' w'' ∧ Kp [] w7 w'') := fun w' hk => by
    refine (cloneInts_some kb0 0 (cw fb false n) c3 (fun i => .int .i64 (nth fb false n i : Nat)) w' (by omega) (fun _ => rfl) (fun i h => by rw [Nat.zero_add]; exact hk.cell' (K7.out.cell' (HKC4.out i h) (by simp)) (by simp))).mono ?_
    rintro e w'' ⟨g, rfl, h1, h2, h3⟩
    exact ⟨g, rfl, h1, h2, h3, hk.trans h3 (by simp)⟩
  have HB8l : Hid (∀ w', Kp [] w7 w' → Calls Tryf.prog 8 #[.slice a4 (cw fb true n) c4] w' fun e w'' => ∃ a' c', e = .returned (.slice a' (cw fb true n) c') ∧ (0 < cw fb true n → ∃ g, a' = some ⟨g, 0, none⟩ ∧ w'.heap.size ≤ g ∧ Row w'' g 3 (cw fb true n) (fun i => .int .i64 (nth fb true n i : Nat))) ∧ Kp [] w' w'' ∧ Kp [] w7 w'') := fun w' hk => by
    refine (cloneInts_own a4 (cw fb true n) c4 (fun i => .int .i64 (nth fb true n i : Nat)) w' ((O4.out.kp K7.out (by simp)).kp hk (by simp)) (by omega) (fun _ => rfl)).mono ?_
    rintro e w'' ⟨a', c', rfl, h1, h2⟩
    exact ⟨a', c', rfl, h1, h2, hk.trans h2 (by simp)⟩
  clear hi hz0 hz1 hz2
  go_upto_region 14 with fail
  go_cut [15] from 28 (fun p wc => ∃ V : VP, p = .pointer (some ⟨V.vb, 0, none⟩) ∧ V.n = n ∧ V.s = S ∧ V.ln = ln ∧ V.C = C ∧ V.md = md ∧ V.nx = nx ∧ V.fb = fb ∧ V.m = cw fb false n ∧ V.ml = cw fb true n ∧ w7.heap.size ≤ V.sb ∧ VerAt wc.heap.size wc V ∧ Row wc V.sb 3 n (fun _ => .int .i64 0) ∧ Kp [] w7 wc)
  case first =>
    go_region_with (first
      | (go_at_call 15; refine (HB15.out _ (by first | exact (Kp.refl _ _).drewN _ | exact ((Kp.refl _ _).drewN _).alloc _ | assumption | exact Kp.alloc (by assumption) _)).mono ?_; rintro e wF ⟨gF, rfl, lF, rF, kF, cF⟩)
      | (go_at_call_of 8 (Value.slice (some ⟨kb0, 0, none⟩) (cw fb false n) c3); refine (HB8k.out _ (by first | exact (Kp.refl _ _).drewN _ | exact ((Kp.refl _ _).drewN _).alloc _ | assumption | exact Kp.alloc (by assumption) _)).mono ?_; rintro e wK ⟨gK, rfl, lK, rK, kK, cK⟩)
      | (go_at_call_of 8 (Value.slice a4 (cw fb true n) c4); refine (HB8l.out _ (by first | exact (Kp.refl _ _).drewN _ | exact ((Kp.refl _ _).drewN _).alloc _ | assumption | exact Kp.alloc (by assumption) _)).mono ?_; rintro e wL ⟨aL, cL, rfl, rL, kL, cL'⟩)
      | (go_at_call 29; refine (newVer_calls _ _ _ _ _ _ _ _ _ _ _ _ _ _ _ _ _ _ _ _ _ _ _ rfl rfl rfl rfl rfl rfl rfl).mono ?_; rintro e wV ⟨rfl, rfl⟩))
    · go_wp2
      go_meet
      have hkF : Kp [] wF (wL.alloc (.cells Z 3)) := (kK.trans kL (by simp)).alloc _
      have hkK : Kp [] wK (wL.alloc (.cells Z 3)) := kL.alloc _
      have hkL : Kp [] wL (wL.alloc (.cells Z 3)) := (Kp.refl _ _).alloc _
      have hk7 : Kp [] w7 (wL.alloc (.cells Z 3)) := cL'.alloc _
      have hz : Row (wL.alloc (.cells Z 3)) (wL.heap.size) 3 n (fun _ => .int .i64 0) := Row.of_heap (heap_alloc_new _ _) HZ
      have l0 : 0 < w7.heap.size := World.block_lt_of_cell? _ _ ((HTab.out.kp (K4.out.trans K7.out (by simp)) (by simp)) 0 (by omega))
      have l1 : tb < w7.heap.size := World.block_lt_of_cell? _ _ HT7.out.c0
      have l2 := HT7.out.next.lt
      have l3 := rF.lt
      have l4 := rK.lt
      have l5 : w7.heap.size ≤ wF.heap.size := cF.size
      have l6 : wF.heap.size ≤ wK.heap.size := kK.size
      have l7 : wK.heap.size ≤ wL.heap.size := kL.size
      obtain ⟨V, e0, e00, e1, e2, e3, e4, e5, e6, e7, e8, e9, hv, hr, hkk⟩ := ver_made (C := C) (c6 := cL) (md := md) (a' := aL) (HT7.out.kp hk7 (by simp) (by simp) (by simp) (by simp)) (HTab.out.kp ((K4.out.trans K7.out (by simp)).trans hk7 (by simp)) (by simp)) (rF.kp hkF (by simp)) (rK.kp hkK (by simp)) (fun h0 => by obtain ⟨g, q1, q2, q3⟩ := rL h0; exact ⟨g, q1, q3.kp hkL (by simp), by have := q3.lt; have := rF.lt; have := rK.lt; (try simp at q2); (try simp at lF); (try simp at lK); omega⟩) hz rfl (by (try simp at lF); (try simp at lK); omega) hk7 rfl
      exact ⟨V, by rw [e0] <;> simp, e1, e2, e3, e4, e5, e6, e7, e8, e9, by rw [e00]; omega, hv, hr, hkk⟩
    · go_wp2
      go_meet
      have hkF : Kp [] wF (wL) := kK.trans (S' := []) (((Kp.refl [] wK).alloc (.cells Z 3)).trans kL (by simp)) (by simp)
      have hkK : Kp [] wK (wL) := ((Kp.refl [] wK).alloc (.cells Z 3)).trans kL (by simp)
      have hkL : Kp [] wL (wL) := Kp.refl _ _
      have hk7 : Kp [] w7 (wL) := cL'
      have hz : Row (wL) (wK.heap.size) 3 n (fun _ => .int .i64 0) := (Row.of_heap (heap_alloc_new wK _) HZ).kp kL (by simp)
      have l0 : 0 < w7.heap.size := World.block_lt_of_cell? _ _ ((HTab.out.kp (K4.out.trans K7.out (by simp)) (by simp)) 0 (by omega))
      have l1 : tb < w7.heap.size := World.block_lt_of_cell? _ _ HT7.out.c0
      have l2 := HT7.out.next.lt
      have l3 := rF.lt
      have l4 := rK.lt
      have l5 : w7.heap.size ≤ wF.heap.size := cF.size
      have l6 : wF.heap.size ≤ wK.heap.size := kK.size
      have l7 : wK.heap.size ≤ wL.heap.size := (((Kp.refl [] wK).alloc (.cells Z 3)).trans kL (by simp)).size
      obtain ⟨V, e0, e00, e1, e2, e3, e4, e5, e6, e7, e8, e9, hv, hr, hkk⟩ := ver_made (C := C) (c6 := cL) (md := md) (a' := aL) (HT7.out.kp hk7 (by simp) (by simp) (by simp) (by simp)) (HTab.out.kp ((K4.out.trans K7.out (by simp)).trans hk7 (by simp)) (by simp)) (rF.kp hkF (by simp)) (rK.kp hkK (by simp)) (fun h0 => by obtain ⟨g, q1, q2, q3⟩ := rL h0; exact ⟨g, q1, q3.kp hkL (by simp), by have := q3.lt; have := rF.lt; have := rK.lt; (try simp at q2); (try simp at lF); (try simp at lK); omega⟩) hz rfl (by (try simp at lF); (try simp at lK); omega) hk7 rfl
      exact ⟨V, by rw [e0] <;> simp, e1, e2, e3, e4, e5, e6, e7, e8, e9, by rw [e00]; omega, hv, hr, hkk⟩
    · go_wp2
      go_meet
      have hkF : Kp [] wF (wL) := (((Kp.refl [] wF).alloc (.cells Z 3)).trans kK (by simp)).trans kL (by simp)
      have hkK : Kp [] wK (wL) := kL
      have hkL : Kp [] wL (wL) := Kp.refl _ _
      have hk7 : Kp [] w7 (wL) := cL'
      have hz : Row (wL) (wF.heap.size) 3 n (fun _ => .int .i64 0) := ((Row.of_heap (heap_alloc_new wF _) HZ).kp kK (by simp)).kp kL (by simp)
      have l0 : 0 < w7.heap.size := World.block_lt_of_cell? _ _ ((HTab.out.kp (K4.out.trans K7.out (by simp)) (by simp)) 0 (by omega))
      have l1 : tb < w7.heap.size := World.block_lt_of_cell? _ _ HT7.out.c0
      have l2 := HT7.out.next.lt
      have l3 := rF.lt
      have l4 := rK.lt
      have l5 : w7.heap.size ≤ wF.heap.size := cF.size
      have l6 : wF.heap.size ≤ wK.heap.size := (((Kp.refl [] wF).alloc (.cells Z 3)).trans kK (by simp)).size
      have l7 : wK.heap.size ≤ wL.heap.size := kL.size
      obtain ⟨V, e0, e00, e1, e2, e3, e4, e5, e6, e7, e8, e9, hv, hr, hkk⟩ := ver_made (C := C) (c6 := cL) (md := md) (a' := aL) (HT7.out.kp hk7 (by simp) (by simp) (by simp) (by simp)) (HTab.out.kp ((K4.out.trans K7.out (by simp)).trans hk7 (by simp)) (by simp)) (rF.kp hkF (by simp)) (rK.kp hkK (by simp)) (fun h0 => by obtain ⟨g, q1, q2, q3⟩ := rL h0; exact ⟨g, q1, q3.kp hkL (by simp), by have := q3.lt; have := rF.lt; have := rK.lt; (try simp at q2); (try simp at lF); (try simp at lK); omega⟩) hz rfl (by (try simp at lF); (try simp at lK); omega) hk7 rfl
      exact ⟨V, by rw [e0] <;> simp, e1, e2, e3, e4, e5, e6, e7, e8, e9, by rw [e00]; omega, hv, hr, hkk⟩
    · go_wp2
      go_meet
      have hkF : Kp [] wF (wL) := kK.trans kL (by simp)
      have hkK : Kp [] wK (wL) := kL
      have hkL : Kp [] wL (wL) := Kp.refl _ _
      have hk7 : Kp [] w7 (wL) := cL'
      have hz : Row (wL) (w7.heap.size) 3 n (fun _ => .int .i64 0) := ((((Row.of_heap (heap_alloc_new w7 _) HZ).drew).kp kF (by simp)).kp kK (by simp)).kp kL (by simp)
      have l0 : 0 < w7.heap.size := World.block_lt_of_cell? _ _ ((HTab.out.kp (K4.out.trans K7.out (by simp)) (by simp)) 0 (by omega))
      have l1 : tb < w7.heap.size := World.block_lt_of_cell? _ _ HT7.out.c0
      have l2 := HT7.out.next.lt
      have l3 := rF.lt
      have l4 := rK.lt
      have l5 : w7.heap.size ≤ wF.heap.size := cF.size
      have l6 : wF.heap.size ≤ wK.heap.size := kK.size
      have l7 : wK.heap.size ≤ wL.heap.size := kL.size
      obtain ⟨V, e0, e00, e1, e2, e3, e4, e5, e6, e7, e8, e9, hv, hr, hkk⟩ := ver_made (C := C) (c6 := cL) (md := md) (a' := aL) (HT7.out.kp hk7 (by simp) (by simp) (by simp) (by simp)) (HTab.out.kp ((K4.out.trans K7.out (by simp)).trans hk7 (by simp)) (by simp)) (rF.kp hkF (by simp)) (rK.kp hkK (by simp)) (fun h0 => by obtain ⟨g, q1, q2, q3⟩ := rL h0; exact ⟨g, q1, q3.kp hkL (by simp), by have := q3.lt; have := rF.lt; have := rK.lt; (try simp at q2); (try simp at lF); (try simp at lK); omega⟩) hz rfl (by (try simp at lF); (try simp at lK); omega) hk7 rfl
      exact ⟨V, by rw [e0] <;> simp, e1, e2, e3, e4, e5, e6, e7, e8, e9, by rw [e00]; omega, hv, hr, hkk⟩
  case rest =>
    obtain ⟨V, rfl, eN, eS, eLn, eC, eMd, eNx, eFb, eM, eMl, hsbl, hVer, hSeen, hk8⟩ := hcut
    subst eN eS eLn eC eMd eNx eFb
    have G : VG V := ⟨hn1, by omega, hs1, hs2, by omega, HD.out.shape, HD.out.nxs, eM, eMl, by rw [HD.out.hC, eM], hC2, by rw [eM]; exact hm1⟩
    have HZd := hid (zdepths_calls G wc hVer _ hSeen)
    have K8 := hid hk8
    have HEM := hid eM
    clear hVer hSeen hk8 eM eMl HB15 HB8k HB8l rZ HZ O4
    go_wp2_with fail
    refine HZd.out.mono ?_
    rintro e w9 ⟨g, D, rfl, hg9, r9, hFin, k9⟩
    have K9 := hid ((K7.out.trans K8.out (by simp)).trans k9 (by simp; exact Nat.le_trans K7.out.size hsbl))
    have FIN := hid hFin
    have n1 : g1 ∉ [V.sb] := by have := R14.out.lt; have := K7.out.size; simp; omega
    have n2 : g2 ∉ [V.sb] := by have := R24.out.lt; have := K7.out.size; simp; omega
    have R19 := hid (R14.out.kp K9.out (by simp))
    have R29 := hid (R24.out.kp K9.out (by simp))
    have HKC9 : Hid (∀ i, i < cw V.fb false V.n → w9.cell? ⟨kb0, i, none⟩ = some (.int .i64 (nth V.fb false V.n i : Nat))) := fun i h => K9.out.cell' (HKC4.out i h) (by simp)
    have KW9 := hid (K4.out.trans K9.out (by simp))
    have R9 := hid r9
    clear hFin r9 k9 n1 n2 HZd K8 K7 K4 R14 R24 HKC4 HT7 hg9 hsbl K9
    go_wp2_with fail
    refine (cloneU8_some g1 0 V.ln V.ln (fun i => .int .u8 (V.nx i : Nat)) _ (by omega) (fun _ => rfl) (fun i h => by rw [Nat.zero_add]; exact R19.out.cell h)).mono ?_
    rintro e w10 ⟨g10, rfl, hg10, r10, k10⟩
    go_wp2_with fail
    refine (weightsFor_calls V.s V.n _ hs1 (by omega) hpn).mono ?_
    rintro e w11 ⟨g11, rfl, hg11, r11, k11⟩
    go_wp2_with fail
    refine (bitsFor_calls V.s _).mono ?_
    rintro e w11' ⟨⟨bits2, rfl⟩, hw⟩
    have hw' := hw.symm
    subst hw'
    clear hw
    go_wp2_with fail
    refine (newTable_calls V.n V.s V.ln g10 g11 V.nx bits2 _ (r10.kp k11 (by simp)) r11).mono ?_
    rintro e w12 ⟨tb2, fl2, rfl, htb2, hfl2, hT12, k12⟩
    have K12 := hid ((k10.trans k11 (by simp)).trans k12 (by simp))
    have HT12 := hid hT12
    clear r10 r11 k10 k11 k12 hg10 hg11 htb2 hfl2 hT12
    obtain ⟨i0', hi', hz0', hz1', hz2'⟩ := info_parts Tryf.info3
    go_wp2_with (at_make; refine wpList_make_row _ rfl _ _ 22 rfl 3 i0' (.int .i64 0) 1 Tryf.underlying22 hi' hz0' hz1' _ _ _ _ (cw V.fb false V.n) rfl rfl rfl rfl (by rw [hz2']; omega) (by unfold maxLen; omega) (fun _ => .int .i64 0) (by rw [Nat.mul_one]; exact madeCells_one _ _) ?_; intro w13 hr13 hk13 hs13)
    rw [Nat.mul_one] at hr13
    obtain ⟨gd, hgd⟩ : ∃ gd, gd = w12.heap.size := ⟨_, rfl⟩
    rw [← hgd] at hr13
    rw [← hgd]
    have KA := hid ((KW9.out.trans K12.out (by simp)).trans hk13 (by simp))
    have K913 := hid (K12.out.trans hk13 (by simp))
    have TA := hid (HT12.out.kp hk13 (by simp) (by simp) (by simp) (by simp))
    have RA := hid hr13
    have hgdw : w.heap.size ≤ gd := by have h1 := KW9.out.size; have h2 := K12.out.size; omega
    have hgd9 : w9.heap.size ≤ gd := by have h2 := K12.out.size; omega
    have tlt : tb2 < gd ∧ g10 < gd ∧ g11 < gd ∧ fl2 < gd := by
      rw [hgd]
      exact ⟨World.block_lt_of_cell? _ _ HT12.out.c0, HT12.out.next.lt, HT12.out.weights.lt, World.block_lt_of_cell? _ _ HT12.out.f0⟩
    have hgl : g < w9.heap.size := R9.out.lt
    have hg2l : g2 < w9.heap.size := R29.out.lt
    have hkl : kb0 < w9.heap.size := World.block_lt_of_cell? _ _ (HKC9.out 0 hm1)
    have hgd13 : gd < w13.heap.size := by omega
    clear hr13 hk13 hs13 hgd HT12 K12
    go_loopw [19] (fun i wr => ∃ (k : Nat) (F : Nat → Value), k ≤ V.C ∧ i = .int .i64 k ∧ Row wr gd 3 (cw V.fb false V.n) F ∧ Kp [gd] w13 wr) (fun i _ => V.C - (intOf i).toNat)
    case atStart => exact ⟨0, _, by omega, rfl, RA.out, Kp.refl _ _⟩
    case round =>
      obtain ⟨k, F, hk, rfl, hr, hkp⟩ := hrel
      have HR := hid hr
      have HK := hid hkp
      by_cases hlt : k < V.C
      · have hDk := hkp.cell' (K913.out.cell' (R9.out.cell hlt) (by simp)) (show g ∉ [gd] by simp; omega)
        have hv := FIN.out.vals hlt
        have hbd := FIN.out.bound (fun i k _ h => SS.lt i k h) hlt
        have hbad := FIN.out.bad k hlt
        clear hr hkp
        obtain ⟨Dk, hDd⟩ : ∃ Dk, Dk = D k := ⟨_, rfl⟩
        have HDk := hid hDd
        rw [← hDd] at hDk hv hbd hbad
        clear hDd
        go_wp2_with fail
        refine (decode_calls k V.s (cw V.fb false V.n) gd (cw V.fb false V.n) F wr hs1 hs2 (by omega) (by omega) HR.out).mono ?_
        rintro e w14 ⟨rfl, hd14, k14⟩
        have HD14 := hid hd14
        have K14 := hid k14
        clear hd14 k14
        go_wp2_with fail
        refine (sameBelow_calls (cw V.fb false V.n) gd (cw V.fb false V.n) V.md (fun j => ((dg V.s (cw V.fb false V.n) k j : Nat) : Int)) w14 hm1 (by omega) (fun i h => HD14.out.cell h)).mono ?_
        rintro e w15 ⟨rfl, q15, hw15⟩
        have hgk : sbB (cw V.fb false V.n) V.md (fun j => ((dg V.s (cw V.fb false V.n) k j : Nat) : Int)) = goodC V k := by
          unfold sbB goodC goodD
          rw [decide_eq_decide, HEM.out]
          constructor
          · rintro ⟨a, b⟩
            exact ⟨fun j hj => by have := a j hj; dsimp only at this; omega, b⟩
          · rintro ⟨a, b⟩
            exact ⟨fun j hj => by have := a j hj; dsimp only; omega, b⟩
        rw [hgk]
        have HD15 : Hid (DRow w15 gd (cw V.fb false V.n) (dg V.s (cw V.fb false V.n) k)) := by rw [hw15]; exact HD14.out.drewN _
        have HK15 : Hid (Kp [gd] w13 w15) := by rw [hw15]; exact (HK.out.trans K14.out (by simp)).drewN _
        clear hw15 hgk HD14 K14 HK HR
        by_cases h3 : Dk = -3
        · subst h3
          have hg0 : goodC V k = false := by
            cases hc : goodC V k
            · rfl
            · have := hv.2.2 hc; omega
          rw [hg0]
          go_wp2
          go_roundw
          case rel => exact ⟨k + 1, _, by omega, by go_num, HD15.out, HK15.out⟩
          case measure => simp [intOf]; omega
        · obtain ⟨dN, hdN⟩ := Int.eq_ofNat_of_zero_le (show 0 ≤ Dk by omega)
          subst hdN
          have hb1 : ((dN : Int) == -3) = false := by simp
          have hb2 : (((dN : Int) == 0) != goodC V k) = false := by
            cases hc : goodC V k
            · have : ¬ (dN : Int) = 0 := fun e => by have := hv.2.1 e; rw [hc] at this; cases this
              simp; omega
            · have : (dN : Int) = 0 := hv.2.2 hc
              simp; omega
          obtain ⟨gk, hgk⟩ : ∃ gk, gk = goodC V k := ⟨_, rfl⟩
          have HGK := hid hgk
          rw [← hgk] at hb2
          rw [← hgk]
          have HBD := hid hbad
          have HVV := hid hv
          clear hgk hv hbad h3
          go_wp2_with (at_make; refine wpList_make_row _ rfl _ _ 22 rfl 3 i0' (.int .i64 0) 1 Tryf.underlying22 hi' hz0' hz1' _ _ _ _ V.n rfl rfl rfl rfl (by rw [hz2']; omega) (by unfold maxLen; omega) (fun _ => .int .i64 0) (by rw [Nat.mul_one]; exact madeCells_one _ _) ?_; intro w16 hr16 hk16 hs16)
          · rename_i h1 h2
            exfalso
            rcases h2 with (h2 | h2) | h2
            · omega
            · omega
            · have h4 : ((dN : Int) == 0) = gk := by simpa using hb2
              rw [h4] at h2
              simp at h2
          rw [Nat.mul_one] at hr16
          obtain ⟨gi, hgi⟩ : ∃ gi, gi = w15.heap.size := ⟨_, rfl⟩
          rw [← hgi] at hr16
          rw [← hgi]
          have K16 := hid (HK15.out.trans hk16 (by simp))
          have K1516 := hid hk16
          have RI := hid hr16
          have hgi13 : w13.heap.size ≤ gi := by have := HK15.out.size; omega
          have hgigd : ¬ gi = gd := by omega
          have hgigd' : ¬ gd = gi := by omega
          have hgik : ¬ kb0 = gi := by omega
          have HD16 : Hid (DRow w16 gd (cw V.fb false V.n) (dg V.s (cw V.fb false V.n) k)) := HD15.out.kp hk16 (by simp)
          have HGI := hid hgi
          clear hr16 hk16 hs16 HD15 hgi
          go_loopw [23] (fun i wq => ∃ q : Nat, q ≤ cw V.fb false V.n ∧ i = .int .i64 q ∧ Row wq gi 3 V.n (fun u => .int .i64 (if V.fb u = false ∧ cw V.fb false u < q then ((dg V.s (cw V.fb false V.n) k (cw V.fb false u) : Nat) : Int) else 0)) ∧ Kp [gi] w16 wq) (fun i _ => cw V.fb false V.n - (intOf i).toNat)
          case atStart => exact ⟨0, by omega, rfl, RI.out.congr (fun u _ => by simp), Kp.refl _ _⟩
          case round =>
            obtain ⟨q, hq, rfl, hr, hkp⟩ := hrel
            have HRq := hid hr
            have HKq := hid hkp
            by_cases hlq : q < cw V.fb false V.n
            · obtain ⟨u, hu⟩ : ∃ u, u = nth V.fb false V.n q := ⟨_, rfl⟩
              have hun := nth_lt hlq
              have hur := cw_nth hlq
              have hck := hkp.cell' (K16.out.cell' (K913.out.cell' (HKC9.out q hlq) (by simp)) (by simp; omega)) (by simpa using hgik)
              have hcd := hkp.cell' (HD16.out.cell hlq) (by simpa using hgigd')
              rw [← hu] at hun hur hck
              have hcu := hr.cell hun.1
              have hfu := hr.frozen u
              have hun1 := hun.1
              have hfb := hun.2
              have HU := hid hu
              clear hr hkp hu hun
              go_wp2
              go_region
              all_goals
                go_wp2
                refine ⟨⟨q + 1, by omega, by go_num, ((HRq.out.set u _).drew).congr (fun v hv => ?_), (HKq.out.setCell (.inl (by simp)) _).drew⟩, by simp [intOf]; omega⟩
                by_cases e : v = u
                · subst e
                  simp [hfb, hur]
                · by_cases hv2 : V.fb v = false
                  · have hne : cw V.fb false v ≠ q := fun e2 => e (by rw [HU.out, ← e2]; exact (nth_cw hv hv2).symm)
                    have hiff : (cw V.fb false v < q + 1) ↔ (cw V.fb false v < q) := by omega
                    simp [e, hiff]
                  · simp [e, hv2]
            · obtain rfl : cw V.fb false V.n = q := by omega
              obtain ⟨ini, hini⟩ : ∃ ini : Nat → Int, ini = fun u => if V.fb u = false ∧ cw V.fb false u < cw V.fb false V.n then ((dg V.s (cw V.fb false V.n) k (cw V.fb false u) : Nat) : Int) else 0 := ⟨_, rfl⟩
              have hr' : Row wr gi 3 V.n (fun u => .int .i64 (ini u)) := by rw [hini]; exact hr
              have HIni : Hid (∀ u, u < V.n → V.fb u = false → ini u = ((dg V.s (cw V.fb false V.n) k (cw V.fb false u) : Nat) : Int)) := fun u hu hf => by
                rw [hini]
                simp [hf, cw_lt hu hf]
              have HIn2 : Hid (∀ u, u < V.n → V.fb u = false → 0 ≤ ini u ∧ ini u < V.s) := fun u hu hf => by
                rw [HIni.out u hu hf]
                have := dg_lt hs1 (cw V.fb false V.n) k (cw V.fb false u)
                omega
              have KQ := hid (K16.out.trans hkp (by simp; omega))
              have HRI := hid hr'
              have RDq : Hid (DRow wr gd (cw V.fb false V.n) (dg V.s (cw V.fb false V.n) k)) := HD16.out.kp hkp (by simpa using hgigd')
              clear hr hkp hr' hini HRq HKq HD16 RI
              go_wp2_with fail
              refine (cloneBools_some g2 0 V.n V.n (fun i => .bool (V.fb i)) _ (by omega) (fun _ => rfl) (fun i h => by rw [Nat.zero_add]; exact KQ.out.cell' (K913.out.cell' (R29.out.cell h) (by simp)) (by simp; omega))).mono ?_
              rintro e w17 ⟨g17, rfl, hg17, r17, k17⟩
              have K17 := hid (KQ.out.trans k17 (by simp))
              have HRI17 := hid (HRI.out.kp k17 (by simp))
              have T17 := hid (TA.out.kp K17.out (by simp; omega) (by simp; omega) (by simp; omega) (by simp; omega))
              have R17 := hid r17
              have RD17 := hid (RDq.out.kp k17 (by simp))
              have C2 : Hid (∀ i, i < V.n → w17.cell? ⟨g2, i, none⟩ = some (.bool (V.fb i))) := fun i h => K17.out.cell' (K913.out.cell' (R29.out.cell h) (by simp)) (by simp; omega)
              clear r17 k17 hg17
              go_wp2_with fail
              refine (newEquiv_calls tb2 g10 g11 fl2 V.n V.s V.ln g17 gi V.nx V.fb ini _ hn1 (by omega) hs1 (by omega) T17.out R17.out HRI17.out HD.out.few HIn2.out).mono ?_
              rintro e w18 ⟨B, rfl, hS18, k18⟩
              have HS18 := hid hS18
              have K18 := hid k18
              have HOk := hid (st0_ok (n := V.n) HIn2.out)
              obtain ⟨st, hst⟩ : ∃ st, st = st0 V.fb ini := ⟨_, rfl⟩
              rw [← hst] at HS18 HOk
              have HC0 : Hid (cno V st = k) := by
                show cno V st = k
                unfold cno
                rw [ix_congr (e := dg V.s V.m k) (fun j hj => ?_), ix_dg hs1 (by rw [← G.hC]; exact hlt)]
                have h1 := G.cor hj
                have h2 : cw V.fb false (nth V.fb false V.n j) = j := cw_nth (by rw [← G.hm]; exact hj)
                unfold cfg
                rw [hst]
                simp only [st0, h1.2]
                simp only [Bool.false_eq_true, if_false]
                rw [HIni.out _ h1.1 h1.2, h2, ← HEM.out]
                simp
              clear hst hS18 k18
              have hG : Hid (V.n ≤ 4096 → Ground w17.heap.size tb2 g10 g11 fl2 V.n V.s V.ln V.nx V.fb) := fun h4 => by
                have t := T17.out
                exact ⟨hn1, h4, hs1, by omega, by omega, HD.out.shape, HD.out.nxs, HB.out, World.block_lt_of_cell? _ _ t.c0, t.next.lt, t.weights.lt, World.block_lt_of_cell? _ _ t.f0, hm1⟩
              have hD0 : Hid (0 ≤ D (cno V st) ∧ D (cno V st) ≤ dN) := by
                rw [HC0.out]
                have := HDk.out
                show 0 ≤ D k ∧ D k ≤ dN
                omega
              have hr0 : Hid (gk = goodC V (cno V st)) := by rw [HC0.out]; exact HGK.out
              go_wp2
              go_loopw [26, 27] (fun rc i wq => ∃ j : Nat, i = .int .i64 j ∧ j ≤ dN ∧ rc = .bool (goodC V (cno V (runF V.n V.s V.nx V.fb st j))) ∧ SimAt wq w17.heap.size B tb2 V.n V.s V.fb (j : Nat) (runF V.n V.s V.nx V.fb st j) ∧ 0 ≤ D (cno V (runF V.n V.s V.nx V.fb st j)) ∧ D (cno V (runF V.n V.s V.nx V.fb st j)) + j ≤ dN ∧ Kp [] w17 wq) (fun _ i _ => dN - (intOf i).toNat)
              case atStart => exact ⟨0, rfl, by omega, by rw [hr0.out]; rfl, HS18.out, hD0.out.1, by have := hD0.out.2; show D (cno V st) + 0 ≤ _; omega, K18.out⟩
              case round =>
                obtain ⟨j, rfl, hj, rfl, hS, hd1, hd2, hkp⟩ := hrel
                have HSq := hid hS
                have HKq := hid hkp
                have HOkj := hid (runF_ok HOk.out HD.out.shape HD.out.nxs j)
                have HSucc : Hid (runF V.n V.s V.nx V.fb st (j + 1) = stepF V.n V.s V.nx V.fb (runF V.n V.s V.nx V.fb st j)) := rfl
                have hcl := cno_lt G HOkj.out
                have hval := FIN.out.vals hcl
                have HFall := hid (fall G HOkj.out FIN.out hd1)
                have HGsb := hid (good_sb G (stepF_ok (nx := V.nx) HOkj.out HD.out.shape HD.out.nxs))
                obtain ⟨run, hrun⟩ : ∃ run, run = runF V.n V.s V.nx V.fb st j := ⟨_, rfl⟩
                rw [← hrun] at HFall HGsb HSucc hval hd1 hd2
                rw [← hrun]
                have HRun := hid hrun
                obtain ⟨dj, hdj⟩ : ∃ dj, dj = D (cno V run) := ⟨_, rfl⟩
                rw [← hdj] at hval hd1 hd2 HFall
                clear hS hkp hrun hdj HS18 hD0 hr0
                cases hrb : goodC V (cno V run)
                · have hjd : j < dN := by
                    by_cases e : j < dN
                    · exact e
                    · have : dj = 0 := by omega
                      have := hval.2.1 this
                      rw [hrb] at this
                      cases this
                  have hC2' : 2 ≤ V.C := by omega
                  have hS2 : 2 ≤ V.s := by
                    by_cases e : V.s = 1
                    · have h1 := G.hC
                      rw [e, Nat.one_pow] at h1
                      omega
                    · omega
                  have hn4 : V.n ≤ 4096 := by
                    by_cases e : V.n ≤ 20
                    · omega
                    · have h1 : 2 ^ 21 ≤ 2 ^ V.n := Nat.pow_le_pow_right (by omega) (by omega)
                      have h2 : 2 ^ V.n ≤ V.s ^ V.n := Nat.pow_le_pow_left hS2 _
                      omega
                  have HF2 := hid (HFall.out hrb)
                  clear hval hd1 HFall hrb
                  go_wp2_with fail
                  refine (stepRun (hG.out hn4) rfl (by omega) T17.out HKq.out HSq.out HOk.out).mono ?_
                  rintro e w20 ⟨rfl, hS', hk', hkw⟩
                  have HS' := hid hS'
                  have HK' := hid hk'
                  clear hS' hk' hkw
                  go_wp2_with fail
                  refine (simStates_calls _ _ _ _ B _ _ _ _ HS'.out).mono ?_
                  rintro e w21 ⟨rfl, hw21⟩
                  have hw21' := hw21.symm
                  subst hw21'
                  clear hw21
                  go_wp2_with fail
                  refine (statesGood_calls B.stb g2 V.n V.n V.n V.md V.fb (runF V.n V.s V.nx V.fb st (j + 1)) w20 (by omega) hm1 (fun i h => HK'.out.cell' (C2.out i h) (by simp)) (fun i h => HS'.out.st.cell h)).mono ?_
                  rintro e w22 ⟨rfl, hk22⟩
                  have HK22 := hid hk22
                  clear hk22
                  go_wp2
                  go_roundw
                  case rel =>
                    refine ⟨j + 1, by go_num, by omega, ?_, HS'.out.kp HK22.out, ?_, ?_, HK'.out.trans HK22.out (by simp)⟩
                    · rw [HSucc.out, HGsb.out, HEM.out]
                    · rw [HSucc.out]; exact HF2.out.1
                    · rw [HSucc.out]
                      have := HF2.out.2
                      show D _ + ((j + 1 : Nat) : Int) ≤ _
                      omega
                  case measure => simp [intOf]; omega
                · clear hval hd1 HFall
                  have HRB := hid hrb
                  clear hrb
                  by_cases hjd : j < dN
                  · go_wp2
                    go_roundw
                    case rel => exact ⟨k + 1, _, by omega, by go_num, RD17.out.kp HKq.out (by simp), K17.out.trans HKq.out (by simp)⟩
                    case measure => simp [intOf]; omega
                  · go_wp2
                    go_roundw
                    case rel => exact ⟨k + 1, _, by omega, by go_num, RD17.out.kp HKq.out (by simp), K17.out.trans HKq.out (by simp)⟩
                    case measure => simp [intOf]; omega
      · obtain rfl : V.C = k := by omega
        clear hr hkp
        go_wp2
        go_ret
        exact ⟨rfl, (KA.out.trans HK.out (by simpa using hgdw)).below (Nat.le_refl _) (by simp)⟩
end Go.Proofs.Qxb6615056aFmt

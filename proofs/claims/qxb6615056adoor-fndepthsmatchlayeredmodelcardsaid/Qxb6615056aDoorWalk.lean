/-
  THE WALK OF FnDepthsMatchLayeredModel (3).
-/
import Derived.Test.Qxb6615056aDoorMade
import Derived.Test.Qxb6615056aDoorModel
import Derived.Deep.CutRange
namespace Go.Proofs.Qxb6615056aDoor
open Go.RowKit Go.Tocsin

set_option maxHeartbeats 1600000 in
set_option maxRecDepth 100000 in
theorem zzBytes4 (s x : Int) (a0 a1 : Option Addr) (l0 c0 l1 c1 : Nat) (w : World) (h0 : l0 ≤ maxLen) (h1 : l1 ≤ maxLen) :
    Calls Tryd.prog 4 #[.int .i64 s, .slice a0 l0 c0, .slice a1 l1 c1, .int .i64 x] w fun e w' => SaysB (l0 + l1 ≤ 1048576) e ∧ w' = w := by
  unfold maxLen at h0 h1
  by_cases g0 : (1048576 : Int) < (l0 : Int)
  · go_enter Tryd.func4, Tryd.ntmps4
    go_wp2
    go_ret
    exact ⟨SaysB.no _, rfl⟩
  by_cases g1 : (1048576 : Int) < (l1 : Int)
  · go_enter Tryd.func4, Tryd.ntmps4
    go_wp2
    go_ret
    exact ⟨SaysB.no _, rfl⟩
  by_cases g2 : (1048576 : Int) < (l0 : Int) + (l1 : Int)
  · go_enter Tryd.func4, Tryd.ntmps4
    go_wp2
    go_ret
    exact ⟨SaysB.no _, rfl⟩
  · have hP : l0 + l1 ≤ 1048576 := by omega
    have HP := hid hP
    clear hP
    go_enter Tryd.func4, Tryd.ntmps4
    go_wp2
    go_ret
    exact ⟨SaysB.yes HP.out, rfl⟩
theorem correct_pos {n : Nat} {fb : Nat → Bool} (hn : 1 ≤ n) (h : cnt fb n ≤ (n - 1) / 3) : 0 < cw fb false n := by
  rw [cnt_cw] at h
  have := cw_add (fb := fb) n
  omega

/-- The liars' cells, and a block number that stands for them where there are none. -/
theorem liars_at {w : World} {a : Option Addr} {n c : Nat} {F : Nat → Value} (h0 : 0 < w.heap.size) (h : Own w 3 (.slice a n c) n F) :
    ∃ lb, lb < w.heap.size ∧ (0 < n → a = some ⟨lb, 0, none⟩ ∧ ∀ i, i < n → w.cell? ⟨lb, i, none⟩ = some (F i)) := by
  by_cases hn : 0 < n
  · obtain ⟨a', c', e, hel⟩ := h.elim
    obtain ⟨b, rfl, -, hc⟩ := hel hn
    cases e
    exact ⟨b, World.block_lt_of_cell? _ _ (hc 0 hn), fun _ => ⟨rfl, hc⟩⟩
  · exact ⟨0, h0, fun h => absurd h hn⟩

set_option maxHeartbeats 8000000 in
set_option maxRecDepth 100000 in
theorem match_walk (s : Int) (an af : Option Addr) (ln cn n cf : Nat) (nx : Nat → Nat) (fb : Nat → Bool) (md : Int) (w : World) (hln : ln ≤ maxLen) (hn : n ≤ maxLen) (hb : ∀ i, nx i < 256)
    (hN : SlAt w an ln (fun i => .int .u8 (nx i : Nat))) (hF : SlAt w af n (fun i => .bool (fb i))) (hTab : TabAt w) :
    Calls Tryd.prog 3 #[.int .i64 s, .slice an ln cn, .slice af n cf, .int .i64 md] w fun e w' => e = .returned (.bool true) ∧ Below w.heap.size w w' := by
  have HZ := hid (zzBytes4 s md an af ln cn n cf w hln hn)
  have HN := hid hN
  have HF := hid hF
  have HB := hid hb
  have HTab := hid hTab
  clear hN hF hb hln hn hTab
  go_enter Tryd.func3, Tryd.ntmps3
  go_wp2_with fail
  refine HZ.out.mono ?_
  rintro e w' ⟨⟨β, rfl, hβ⟩, hw⟩
  have hw' := hw.symm
  subst hw'
  clear hw
  cases β
  · clear hβ
    go_wp2
    go_ret
    exact ⟨rfl, Below.refl _ _⟩
  have hsum := hβ rfl
  clear hβ HZ
  have HD := hid (verifDomain_calls s an af ln cn n cf nx fb w (by omega) (by omega) HB.out HN.out HF.out)
  go_wp2_with fail
  refine HD.out.mono ?_
  rintro e w' ⟨⟨c, β, rfl, hβ⟩, hw⟩
  have hw' := hw.symm
  subst hw'
  clear hw
  cases β
  · clear hβ
    go_wp2
    go_ret
    exact ⟨rfl, Below.refl _ _⟩
  obtain ⟨S, C, rfl, D⟩ := hβ rfl
  clear hβ HD
  obtain rfl := D.hs
  have hn1 := D.n1
  have hpos : 1 ≤ S ^ n := Nat.one_le_pow _ _ D.s1
  have hl1 : 1 ≤ ln := by rw [← D.shape]; exact Nat.mul_le_mul hpos hn1
  have hpn : S ^ n ≤ 1048576 := by
    have : S ^ n * 1 ≤ S ^ n * n := Nat.mul_le_mul_left _ hn1
    have := D.shape
    omega
  obtain ⟨bn, on, rfl, cN⟩ := HN.out (by omega)
  obtain ⟨bf, of', rfl, cF⟩ := HF.out (by omega)
  have HCN := hid cN
  have HCF := hid cF
  have HD := hid D
  have hm1 : 1 ≤ cw fb false n := correct_pos hn1 D.few
  have hcle := cw_le (fb := fb) (want := false) n
  have hcle2 := cw_le (fb := fb) (want := true) n
  have hs1 := D.s1
  have hs2 := D.s2
  have hC2 := D.C2
  clear cN cF D HN HF hpos
  go_wp2_with fail
  refine (cloneU8_some bn on ln cn (fun i => .int .u8 (nx i : Nat)) _ (by omega) (fun _ => rfl) HCN.out).mono ?_
  rintro e w1 ⟨g1, rfl, hg1, r1, k1⟩
  go_wp2_with fail
  refine (cloneBools_some bf of' n cf (fun i => .bool (fb i)) _ (by omega) (fun _ => rfl) (fun i h => k1.cell' (HCF.out i h) (by simp))).mono ?_
  rintro e w2 ⟨g2, rfl, hg2, r2, k2⟩
  have R1 := hid (r1.kp k2 (by simp))
  have R2 := hid r2
  have K2 := hid (k1.trans k2 (by simp))
  clear r1 r2 k1 k2 hg1 hg2 HCN HCF
  go_wp2_with fail
  refine (idsWhere_calls g2 n n fb false _ (by omega) (fun i h => R2.out.cell h)).mono ?_
  rintro e w3 ⟨a3, c3, rfl, o3, b3, k3⟩
  obtain ⟨a3', c3', e3, hel3⟩ := o3.elim
  obtain ⟨kb0, rfl, hkbl, hkc⟩ := hel3 hm1
  cases e3
  have HKC := hid hkc
  clear o3 hel3 hkc b3 hkbl
  go_wp2_with fail
  refine (idsWhere_calls g2 n n fb true _ (by omega) (fun i h => k3.cell' (R2.out.cell h) (by simp))).mono ?_
  rintro e w4 ⟨a4, c4, rfl, o4, b4, k4⟩
  have O4 := hid o4
  have HKC4 : Hid (∀ i, i < cw fb false n → w4.cell? ⟨kb0, i, none⟩ = some (.int .i64 (nth fb false n i : Nat))) := fun i h => k4.cell' (HKC.out i h) (by simp)
  have R14 := hid ((R1.out.kp k3 (by simp)).kp k4 (by simp))
  have R24 := hid ((R2.out.kp k3 (by simp)).kp k4 (by simp))
  have K4 := hid ((K2.out.trans k3 (by simp)).trans k4 (by simp))
  clear o4 b4 k3 k4 R1 R2 K2 HKC
  go_wp2_with fail
  refine (cloneU8_some g1 0 ln ln (fun i => .int .u8 (nx i : Nat)) _ (by omega) (fun _ => rfl) (fun i h => by rw [Nat.zero_add]; exact R14.out.cell h)).mono ?_
  rintro e w5 ⟨g5, rfl, hg5, r5, k5⟩
  go_wp2_with fail
  refine (weightsFor_calls S n _ hs1 (by omega) hpn).mono ?_
  rintro e w6 ⟨g6, rfl, hg6, r6, k6⟩
  go_wp2_with fail
  refine (bitsFor_calls S _).mono ?_
  rintro e w6' ⟨⟨bits, rfl⟩, hw⟩
  have hw' := hw.symm
  subst hw'
  clear hw
  go_wp2_with fail
  refine (newTable_calls n S ln g5 g6 nx bits _ (r5.kp k6 (by simp)) r6).mono ?_
  rintro e w7 ⟨tb, fl, rfl, htb, hfl, hT7, k7⟩
  have K7 := hid ((k5.trans k6 (by simp)).trans k7 (by simp))
  have HT7 := hid hT7
  clear r5 r6 k5 k6 k7 hg5 hg6 htb hfl hT7
  obtain ⟨i0, hi, hz0, hz1, hz2⟩ := info_parts Tryd.info3
  obtain ⟨Z, HZ, rZ⟩ := make_run (P := Tryd.prog) 29 3 i0 _ 1 Tryd.underlying29 hi hz0 hz1 (n : Int) n rfl (by rw [hz2]; omega) (by unfold maxLen; omega) (fun _ => .int .i64 0) (by rw [Nat.mul_one]; exact madeCells_one _ _)
  rw [Nat.mul_one] at HZ
  have HB15 : Hid (∀ w', Kp [] w7 w' → Calls Tryd.prog 7 #[.slice (some ⟨g2, 0, none⟩) n n] w' fun e w'' => ∃ g, e = .returned (.slice (some ⟨g, 0, none⟩) n n) ∧ w'.heap.size ≤ g ∧ Row w'' g 4 n (fun i => .bool (fb i)) ∧ Kp [] w' w'' ∧ Kp [] w7 w'') := fun w' hk => by
    refine (cloneBools_some g2 0 n n (fun i => .bool (fb i)) w' (by omega) (fun _ => rfl) (fun i h => by rw [Nat.zero_add]; exact hk.cell' (K7.out.cell' (R24.out.cell h) (by simp)) (by simp))).mono ?_
    rintro e w'' ⟨g, rfl, h1, h2, h3⟩
    exact ⟨g, rfl, h1, h2, h3, hk.trans h3 (by simp)⟩
  have HB8k : Hid (∀ w', Kp [] w7 w' → Calls Tryd.prog 13 #[.slice (some ⟨kb0, 0, none⟩) (cw fb false n) c3] w' fun e w'' => ∃ g, e = .returned (.slice (some ⟨g, 0, none⟩) (cw fb false n) (cw fb false n)) ∧ w'.heap.size ≤ g ∧ Row w'' g 3 (cw fb false n) (fun i => .int .i64 (nth fb false n i : Nat)) ∧ Kp [] w' w'' ∧ Kp [] w7 w'') := fun w' hk => by
    refine (cloneInts_some kb0 0 (cw fb false n) c3 (fun i => .int .i64 (nth fb false n i : Nat)) w' (by omega) (fun _ => rfl) (fun i h => by rw [Nat.zero_add]; exact hk.cell' (K7.out.cell' (HKC4.out i h) (by simp)) (by simp))).mono ?_
    rintro e w'' ⟨g, rfl, h1, h2, h3⟩
    exact ⟨g, rfl, h1, h2, h3, hk.trans h3 (by simp)⟩
  have HB8l : Hid (∀ w', Kp [] w7 w' → Calls Tryd.prog 13 #[.slice a4 (cw fb true n) c4] w' fun e w'' => ∃ a' c', e = .returned (.slice a' (cw fb true n) c') ∧ (0 < cw fb true n → ∃ g, a' = some ⟨g, 0, none⟩ ∧ w'.heap.size ≤ g ∧ Row w'' g 3 (cw fb true n) (fun i => .int .i64 (nth fb true n i : Nat))) ∧ Kp [] w' w'' ∧ Kp [] w7 w'') := fun w' hk => by
    refine (cloneInts_own a4 (cw fb true n) c4 (fun i => .int .i64 (nth fb true n i : Nat)) w' ((O4.out.kp K7.out (by simp)).kp hk (by simp)) (by omega) (fun _ => rfl)).mono ?_
    rintro e w'' ⟨a', c', rfl, h1, h2⟩
    exact ⟨a', c', rfl, h1, h2, hk.trans h2 (by simp)⟩
  clear hi hz0 hz1 hz2
  go_upto_region 14 with fail
  go_cut [15] from 18 (fun p wc => ∃ V : VP, p = .pointer (some ⟨V.vb, 0, none⟩) ∧ V.n = n ∧ V.s = S ∧ V.ln = ln ∧ V.C = C ∧ V.md = md ∧ V.nx = nx ∧ V.fb = fb ∧ V.m = cw fb false n ∧ V.ml = cw fb true n ∧ w7.heap.size ≤ V.sb ∧ VerAt wc.heap.size wc V ∧ Row wc V.sb 3 n (fun _ => .int .i64 0) ∧ Kp [] w7 wc)
  case first =>
    go_region_with (first
      | (go_at_call 7; refine (HB15.out _ (by first | exact (Kp.refl _ _).drewN _ | exact ((Kp.refl _ _).drewN _).alloc _ | assumption | exact Kp.alloc (by assumption) _)).mono ?_; rintro e wF ⟨gF, rfl, lF, rF, kF, cF⟩)
      | (go_at_call_of 13 (Value.slice (some ⟨kb0, 0, none⟩) (cw fb false n) c3); refine (HB8k.out _ (by first | exact (Kp.refl _ _).drewN _ | exact ((Kp.refl _ _).drewN _).alloc _ | assumption | exact Kp.alloc (by assumption) _)).mono ?_; rintro e wK ⟨gK, rfl, lK, rK, kK, cK⟩)
      | (go_at_call_of 13 (Value.slice a4 (cw fb true n) c4); refine (HB8l.out _ (by first | exact (Kp.refl _ _).drewN _ | exact ((Kp.refl _ _).drewN _).alloc _ | assumption | exact Kp.alloc (by assumption) _)).mono ?_; rintro e wL ⟨aL, cL, rfl, rL, kL, cL'⟩)
      | (go_at_call 12; refine (newVer_calls _ _ _ _ _ _ _ _ _ _ _ _ _ _ _ _ _ _ _ _ _ _ _ rfl rfl rfl rfl rfl rfl rfl).mono ?_; rintro e wV ⟨rfl, rfl⟩))
    · go_wp2
      go_meet
      have hkF : Kp [] wF (wL.alloc (.cells Z 3)) := (kK.trans kL (by simp)).alloc _
      have hkK : Kp [] wK (wL.alloc (.cells Z 3)) := kL.alloc _
      have hkL : Kp [] wL (wL.alloc (.cells Z 3)) := (Kp.refl _ _).alloc _
      have hk7 : Kp [] w7 (wL.alloc (.cells Z 3)) := cL'.alloc _
      have hz : Row (wL.alloc (.cells Z 3)) (wL.heap.size) 3 n (fun _ => .int .i64 0) := Row.of_heap (heap_alloc_new _ _) HZ
      have l0 : 0 < w7.heap.size := World.block_lt_of_cell? _ _ ((HTab.out.kp (K4.out.trans K7.out (by simp)) (by simp)) 0 (by omega))
      have l1 : tb < w7.heap.size := World.block_lt_of_cell? _ _ HT7.out.c0
      have l2 := HT7.out.next.lt
      have l3 := rF.lt
      have l4 := rK.lt
      have l5 : w7.heap.size ≤ wF.heap.size := cF.size
      have l6 : wF.heap.size ≤ wK.heap.size := kK.size
      have l7 : wK.heap.size ≤ wL.heap.size := kL.size
      obtain ⟨V, e0, e00, e1, e2, e3, e4, e5, e6, e7, e8, e9, hv, hr, hkk⟩ := ver_made (C := C) (c6 := cL) (md := md) (a' := aL) (HT7.out.kp hk7 (by simp) (by simp) (by simp) (by simp)) (HTab.out.kp ((K4.out.trans K7.out (by simp)).trans hk7 (by simp)) (by simp)) (rF.kp hkF (by simp)) (rK.kp hkK (by simp)) (fun h0 => by obtain ⟨g, q1, q2, q3⟩ := rL h0; exact ⟨g, q1, q3.kp hkL (by simp), by have := q3.lt; have := rF.lt; have := rK.lt; (try simp at q2); (try simp at lF); (try simp at lK); omega⟩) hz rfl (by (try simp at lF); (try simp at lK); omega) hk7 rfl
      exact ⟨V, by rw [e0] <;> simp, e1, e2, e3, e4, e5, e6, e7, e8, e9, by rw [e00]; omega, hv, hr, hkk⟩
    · go_wp2
      go_meet
      have hkF : Kp [] wF (wL) := kK.trans (S' := []) (((Kp.refl [] wK).alloc (.cells Z 3)).trans kL (by simp)) (by simp)
      have hkK : Kp [] wK (wL) := ((Kp.refl [] wK).alloc (.cells Z 3)).trans kL (by simp)
      have hkL : Kp [] wL (wL) := Kp.refl _ _
      have hk7 : Kp [] w7 (wL) := cL'
      have hz : Row (wL) (wK.heap.size) 3 n (fun _ => .int .i64 0) := (Row.of_heap (heap_alloc_new wK _) HZ).kp kL (by simp)
      have l0 : 0 < w7.heap.size := World.block_lt_of_cell? _ _ ((HTab.out.kp (K4.out.trans K7.out (by simp)) (by simp)) 0 (by omega))
      have l1 : tb < w7.heap.size := World.block_lt_of_cell? _ _ HT7.out.c0
      have l2 := HT7.out.next.lt
      have l3 := rF.lt
      have l4 := rK.lt
      have l5 : w7.heap.size ≤ wF.heap.size := cF.size
      have l6 : wF.heap.size ≤ wK.heap.size := kK.size
      have l7 : wK.heap.size ≤ wL.heap.size := (((Kp.refl [] wK).alloc (.cells Z 3)).trans kL (by simp)).size
      obtain ⟨V, e0, e00, e1, e2, e3, e4, e5, e6, e7, e8, e9, hv, hr, hkk⟩ := ver_made (C := C) (c6 := cL) (md := md) (a' := aL) (HT7.out.kp hk7 (by simp) (by simp) (by simp) (by simp)) (HTab.out.kp ((K4.out.trans K7.out (by simp)).trans hk7 (by simp)) (by simp)) (rF.kp hkF (by simp)) (rK.kp hkK (by simp)) (fun h0 => by obtain ⟨g, q1, q2, q3⟩ := rL h0; exact ⟨g, q1, q3.kp hkL (by simp), by have := q3.lt; have := rF.lt; have := rK.lt; (try simp at q2); (try simp at lF); (try simp at lK); omega⟩) hz rfl (by (try simp at lF); (try simp at lK); omega) hk7 rfl
      exact ⟨V, by rw [e0] <;> simp, e1, e2, e3, e4, e5, e6, e7, e8, e9, by rw [e00]; omega, hv, hr, hkk⟩
    · go_wp2
      go_meet
      have hkF : Kp [] wF (wL) := (((Kp.refl [] wF).alloc (.cells Z 3)).trans kK (by simp)).trans kL (by simp)
      have hkK : Kp [] wK (wL) := kL
      have hkL : Kp [] wL (wL) := Kp.refl _ _
      have hk7 : Kp [] w7 (wL) := cL'
      have hz : Row (wL) (wF.heap.size) 3 n (fun _ => .int .i64 0) := ((Row.of_heap (heap_alloc_new wF _) HZ).kp kK (by simp)).kp kL (by simp)
      have l0 : 0 < w7.heap.size := World.block_lt_of_cell? _ _ ((HTab.out.kp (K4.out.trans K7.out (by simp)) (by simp)) 0 (by omega))
      have l1 : tb < w7.heap.size := World.block_lt_of_cell? _ _ HT7.out.c0
      have l2 := HT7.out.next.lt
      have l3 := rF.lt
      have l4 := rK.lt
      have l5 : w7.heap.size ≤ wF.heap.size := cF.size
      have l6 : wF.heap.size ≤ wK.heap.size := (((Kp.refl [] wF).alloc (.cells Z 3)).trans kK (by simp)).size
      have l7 : wK.heap.size ≤ wL.heap.size := kL.size
      obtain ⟨V, e0, e00, e1, e2, e3, e4, e5, e6, e7, e8, e9, hv, hr, hkk⟩ := ver_made (C := C) (c6 := cL) (md := md) (a' := aL) (HT7.out.kp hk7 (by simp) (by simp) (by simp) (by simp)) (HTab.out.kp ((K4.out.trans K7.out (by simp)).trans hk7 (by simp)) (by simp)) (rF.kp hkF (by simp)) (rK.kp hkK (by simp)) (fun h0 => by obtain ⟨g, q1, q2, q3⟩ := rL h0; exact ⟨g, q1, q3.kp hkL (by simp), by have := q3.lt; have := rF.lt; have := rK.lt; (try simp at q2); (try simp at lF); (try simp at lK); omega⟩) hz rfl (by (try simp at lF); (try simp at lK); omega) hk7 rfl
      exact ⟨V, by rw [e0] <;> simp, e1, e2, e3, e4, e5, e6, e7, e8, e9, by rw [e00]; omega, hv, hr, hkk⟩
    · go_wp2
      go_meet
      have hkF : Kp [] wF (wL) := kK.trans kL (by simp)
      have hkK : Kp [] wK (wL) := kL
      have hkL : Kp [] wL (wL) := Kp.refl _ _
      have hk7 : Kp [] w7 (wL) := cL'
      have hz : Row (wL) (w7.heap.size) 3 n (fun _ => .int .i64 0) := ((((Row.of_heap (heap_alloc_new w7 _) HZ).drew).kp kF (by simp)).kp kK (by simp)).kp kL (by simp)
      have l0 : 0 < w7.heap.size := World.block_lt_of_cell? _ _ ((HTab.out.kp (K4.out.trans K7.out (by simp)) (by simp)) 0 (by omega))
      have l1 : tb < w7.heap.size := World.block_lt_of_cell? _ _ HT7.out.c0
      have l2 := HT7.out.next.lt
      have l3 := rF.lt
      have l4 := rK.lt
      have l5 : w7.heap.size ≤ wF.heap.size := cF.size
      have l6 : wF.heap.size ≤ wK.heap.size := kK.size
      have l7 : wK.heap.size ≤ wL.heap.size := kL.size
      obtain ⟨V, e0, e00, e1, e2, e3, e4, e5, e6, e7, e8, e9, hv, hr, hkk⟩ := ver_made (C := C) (c6 := cL) (md := md) (a' := aL) (HT7.out.kp hk7 (by simp) (by simp) (by simp) (by simp)) (HTab.out.kp ((K4.out.trans K7.out (by simp)).trans hk7 (by simp)) (by simp)) (rF.kp hkF (by simp)) (rK.kp hkK (by simp)) (fun h0 => by obtain ⟨g, q1, q2, q3⟩ := rL h0; exact ⟨g, q1, q3.kp hkL (by simp), by have := q3.lt; have := rF.lt; have := rK.lt; (try simp at q2); (try simp at lF); (try simp at lK); omega⟩) hz rfl (by (try simp at lF); (try simp at lK); omega) hk7 rfl
      exact ⟨V, by rw [e0] <;> simp, e1, e2, e3, e4, e5, e6, e7, e8, e9, by rw [e00]; omega, hv, hr, hkk⟩
  case rest =>
    obtain ⟨V, rfl, eN, eS, eLn, eC, eMd, eNx, eFb, eM, eMl, hsbl, hVer, hSeen, hk8⟩ := hcut
    subst eN eS eLn eC eMd eNx eFb
    have G : VG V := ⟨hn1, by omega, hs1, hs2, by omega, HD.out.shape, HD.out.nxs, eM, eMl, by rw [HD.out.hC, eM], hC2, by rw [eM]; exact hm1⟩
    have HZd := hid (zdepths_calls G wc hVer _ hSeen)
    have l4 : 0 < w4.heap.size := World.block_lt_of_cell? _ _ ((HTab.out.kp K4.out (by simp)) 0 (by omega))
    obtain ⟨lb, hlb, hlia⟩ := liars_at l4 O4.out
    have h47 := K7.out.size
    have hlg : g1 < w4.heap.size := R14.out.lt
    have hlk : kb0 < w4.heap.size := World.block_lt_of_cell? _ _ (HKC4.out 0 hm1)
    have K8 := hid ((K7.out.trans hk8 (by simp)))
    have hsb4 := Nat.le_trans h47 hsbl
    have hKw : Kp [] w wc := K4.out.trans K8.out (by simp)
    have HKw := hid hKw
    have hws : w.heap.size ≤ V.sb := Nat.le_trans K4.out.size hsb4
    have HM4 : Hid (MIn V w4 g1 kb0 a4 lb) := ⟨fun i h => R14.out.cell h, fun i h => HKC4.out i (by rw [← eM]; exact h), fun h => by rw [eMl] at h ⊢; exact hlia h⟩
    have HMd : Hid (∀ (D : Nat → Int) (w' : World), Final V.C (SS V) (goodC V) D → Kp [V.sb] w4 w' → Calls Tryd.prog 15 #[.int .i64 V.s, .slice (some ⟨g1, 0, none⟩) V.ln V.ln, .slice (some ⟨g2, 0, none⟩) V.n V.n, .slice (some ⟨kb0, 0, none⟩) (cw V.fb false V.n) c3, .slice a4 (cw V.fb true V.n) c4, .int .i64 V.md, .int .i64 V.C] w' fun e w'' => ∃ g, e = .returned (.slice (some ⟨g, 0, none⟩) V.C V.C) ∧ w'.heap.size ≤ g ∧ Row w'' g 3 V.C (fun i => .int .i64 (D i)) ∧ Kp [] w' w'') := fun D w' hF hk => by
      have hs := hk.size
      have := model_calls G hF w' g1 g2 kb0 c3 lb c4 V.n a4 (HM4.out.kp hk (by simp; omega) (by simp; omega) (by simp; omega)) (by omega) (by omega) (by omega)
      rw [eM, eMl] at this
      exact this
    clear hVer hSeen hk8 eM eMl HB15 HB8k HB8l rZ HZ O4 hlia hlb hlg hlk h47 hKw HM4 R14 R24 HKC4 HT7
    go_wp2_with fail
    refine HZd.out.mono ?_
    rintro e w9 ⟨g, D, rfl, hg9, r9, hFin, k9⟩
    have HMx := hid (HMd.out D w9 hFin ((K8.out.weaken (by simp)).trans k9 (by simp)))
    have R9 := hid r9
    have K9 := hid k9
    clear HMd hFin k9 r9 HZd hg9
    go_wp2_with fail
    refine HMx.out.mono ?_
    rintro e w10 ⟨g', rfl, hg10, r10, k10⟩
    have R10 := hid r10
    have K10 := hid k10
    clear HMx r10 k10 hg10
    go_wp2_with fail
    refine (sameInts_calls g g' V.C V.C V.C D _ (by omega) (fun i h => K10.out.cell' (R9.out.cell h) (by simp)) (fun i h => R10.out.cell h)).mono ?_
    rintro e w11 ⟨rfl, q, hw11⟩
    have HQ := hid hw11
    clear hw11
    go_wp2
    go_ret
    refine ⟨rfl, ?_⟩
    rw [HQ.out]
    exact (((HKw.out.weaken (S' := [V.sb]) (by simp)).trans K9.out (by simp)).trans (K10.out.drewN q) (by simp)).below (Nat.le_refl _) (by simpa using hws)
end Go.Proofs.Qxb6615056aDoor

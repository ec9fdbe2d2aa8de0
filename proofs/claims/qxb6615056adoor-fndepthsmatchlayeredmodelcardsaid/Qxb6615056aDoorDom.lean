/-
  verifDomain, ZZnewVerification, ZZdepths, decodeDigits, sameBelow.
-/
import Derived.Test.Qxb6615056aDoorParts
import Derived.Test.Qxb6615056aDoorDeep
namespace Go.Proofs.Qxb6615056aDoor
open Go.RowKit Go.Tocsin

theorem cnt_cw (fb : Nat → Bool) (n : Nat) : cnt fb n = cw fb true n := by
  induction n with
  | zero => rfl
  | succ n ih => simp only [cnt, cw, ih]

structure VDom (s : Int) (n ln : Nat) (nx : Nat → Nat) (fb : Nat → Bool) (S C : Nat) : Prop where
  hs : s = (S : Int)
  s1 : 1 ≤ S
  s2 : S ≤ 16
  n1 : 1 ≤ n
  shape : S ^ n * n = ln
  nxs : ∀ i, i < ln → nx i < S
  few : cnt fb n ≤ (n - 1) / 3
  hC : C = S ^ cw fb false n
  C2 : C ≤ 256

/-- The call answers a number and a bool; where it says true, P. -/
def SaysV (P : Int → Prop) (e : Ending) : Prop := ∃ c β, e = .returned (.tuple #[.int .i64 c, .bool β]) ∧ (β = true → P c)
theorem SaysV.no (P : Int → Prop) (c : Int) : SaysV P (.returned (.tuple #[.int .i64 c, .bool false])) := ⟨c, false, rfl, fun h => by cases h⟩
theorem SaysV.yes {P : Int → Prop} {c : Int} (h : P c) : SaysV P (.returned (.tuple #[.int .i64 c, .bool true])) := ⟨c, true, rfl, fun _ => h⟩

set_option maxHeartbeats 3200000 in
set_option maxRecDepth 100000 in
theorem verifDomain_calls (s : Int) (an af : Option Addr) (ln cn n cf : Nat) (nx : Nat → Nat) (fb : Nat → Bool) (w : World) (hln : ln ≤ 1048576) (hn : n ≤ 1048576) (hb : ∀ i, nx i < 256)
    (hN : SlAt w an ln (fun i => .int .u8 (nx i : Nat))) (hF : SlAt w af n (fun i => .bool (fb i))) :
    Calls Tryd.prog 5 #[.int .i64 s, .slice an ln cn, .slice af n cf] w fun e w' => SaysV (fun c => ∃ S C, c = ((C : Nat) : Int) ∧ VDom s n ln nx fb S C) e ∧ w' = w := by
  by_cases h1 : s < 1
  · go_enter Tryd.func5, Tryd.ntmps5
    go_wp2
    go_ret2
    exact ⟨SaysV.no _ _, rfl⟩
  by_cases h2 : 16 < s
  · go_enter Tryd.func5, Tryd.ntmps5
    go_wp2
    go_ret2
    exact ⟨SaysV.no _ _, rfl⟩
  by_cases h3 : (n : Int) < 1
  · go_enter Tryd.func5, Tryd.ntmps5
    go_wp2
    go_ret2
    exact ⟨SaysV.no _ _, rfl⟩
  obtain ⟨S, rfl⟩ := Int.eq_ofNat_of_zero_le (show 0 ≤ s by omega)
  obtain ⟨bf, of', rfl, cf'⟩ := hF (by omega)
  have HF := hid cf'
  have HCnt := hid (countTrue_calls bf of' n cf fb w hn cf')
  clear cf' hF
  have HT : Hid (Calls Tryd.prog 17 #[.int .i64 S, .int .i64 n, .slice an ln cn] w fun e w' => SaysB (S ^ n * n = ln ∧ ∀ i, i < ln → nx i < S) e ∧ w' = w) := by
    by_cases h0 : ln = 0
    · subst h0
      exact (tableShape_none an cn S n w (by omega) (by omega) (by omega) (by omega)).mono fun e w' h => ⟨by rw [h.1]; exact SaysB.no _, h.2⟩
    · obtain ⟨bn, on, rfl, hc⟩ := hN (by omega)
      exact tableShape_some bn on ln cn S n nx w (by omega) (by omega) (by omega) (by omega) hln hb hc
  clear hN hb
  go_enter Tryd.func5, Tryd.ntmps5
  go_wp2_with fail
  refine HT.out.mono ?_
  rintro e w' ⟨⟨β, rfl, hβ⟩, hw⟩
  have hw' := hw.symm
  subst hw'
  clear hw
  cases β
  · clear hβ
    go_wp2
    go_ret2
    exact ⟨SaysV.no _ _, rfl⟩
  have HB := hid (hβ rfl)
  have hcl := cnt_le fb n
  clear hβ HT
  go_wp2_with fail
  refine HCnt.out.mono ?_
  rintro e w' ⟨rfl, hw⟩
  have hw' := hw.symm
  subst hw'
  clear hw
  by_cases h6 : ((n : Int) - 1) / 3 < (cnt fb n : Int)
  · go_wp2
    go_ret2
    exact ⟨SaysV.no _ _, rfl⟩
  have hadd := cw_add (fb := fb) n
  have hcc := cnt_cw fb n
  have HM : Hid (cw fb false n = n - cnt fb n) := by rw [hcc]; show _ = _; omega
  clear hadd hcc
  go_wp2
  go_loop [10, 11] (fun p i => ∃ k q : Nat, k ≤ n - cnt fb n ∧ i = .int .i64 k ∧ p = .int .i64 q ∧ Hid (q = S ^ k) ∧ q ≤ 256) (fun _ i => n - cnt fb n - (intOf i).toNat)
  case atStart => exact ⟨0, 1, by omega, rfl, rfl, by simp [Hid], by omega⟩
  case round =>
    obtain ⟨k, q, hk, rfl, rfl, HQ, hq⟩ := hrel
    by_cases hlt : k < n - cnt fb n
    · have hqs : q * S ≤ 256 * 16 := Nat.mul_le_mul (by omega) (by omega)
      have hb0 : (0 : Int) ≤ (q : Int) * (S : Int) := by rw [← Int.natCast_mul]; omega
      have hb1 : (q : Int) * (S : Int) ≤ 4096 := by rw [← Int.natCast_mul]; omega
      by_cases hgt : (256 : Int) < (q : Int) * (S : Int)
      · go_wp2
        go_ret2
        exact ⟨SaysV.no _ _, rfl⟩
      · have hle : q * S ≤ 256 := by
          have : ((q * S : Nat) : Int) ≤ 256 := by rw [Int.natCast_mul]; omega
          omega
        have HLE := hid hle
        clear hle
        go_wp2
        go_round
        case rel => exact ⟨k + 1, q * S, by omega, by go_num, by rw [Int.natCast_mul], by show q * S = S ^ (k + 1); rw [HQ.out, Nat.pow_succ], HLE.out⟩
        case measure => simp [intOf]; omega
    · have e : k = n - cnt fb n := by omega
      have HE := hid e
      clear e
      go_wp2
      go_ret2
      exact ⟨SaysV.yes ⟨S, q, rfl, ⟨rfl, by omega, by omega, by omega, HB.out.1, HB.out.2, by omega, by rw [HQ.out, HM.out, HE.out], hq⟩⟩, rfl⟩

set_option maxHeartbeats 800000 in
set_option maxRecDepth 100000 in
theorem newVer_calls (v0 v1 v2 v3 v4 v5 v6 : Value) (w : World) (tb : Option Addr) (a1 a3 a4 a6 : Option Addr) (l1 k1 l3 k3 l4 k4 l6 k6 : Nat) (x2 x5 : Int) (h0 : v0 = .pointer tb) (h1 : v1 = .slice a1 l1 k1) (h2 : v2 = .int .i64 x2) (h3 : v3 = .slice a3 l3 k3) (h4 : v4 = .slice a4 l4 k4) (h5 : v5 = .int .i64 x5) (h6 : v6 = .slice a6 l6 k6) :
    Calls Tryd.prog 12 #[v0, v1, v2, v3, v4, v5, v6] w fun e w' => e = .returned (.pointer (some ⟨w.heap.size, 0, none⟩)) ∧ w' = w.alloc (.cells #[v0, v1, v2, v3, v4, v5, v6] 54) := by
  subst h0 h1 h2 h3 h4 h5 h6
  go_enter Tryd.func12, Tryd.ntmps12
  go_wp2
  go_ret
  exact ⟨rfl, rfl⟩

set_option maxHeartbeats 800000 in
set_option maxRecDepth 100000 in
theorem zdepths_calls {V : VP} (G : VG V) (w : World) (hV : VerAt w.heap.size w V) (F0 : Nat → Value) (hs : Row w V.sb 3 V.n F0) :
    Calls Tryd.prog 14 #[.pointer (some ⟨V.vb, 0, none⟩)] w fun e w' => ∃ g D, e = .returned (.slice (some ⟨g, 0, none⟩) V.C V.C) ∧ w.heap.size ≤ g ∧ Row w' g 3 V.C (fun i => .int .i64 (D i)) ∧ Final V.C (SS V) (goodC V) D ∧ Kp [V.sb] w w' := by
  have HD := hid (depths_calls G w hV F0 hs)
  clear hV hs
  go_enter Tryd.func14, Tryd.ntmps14
  go_wp2_with fail
  refine HD.out.mono ?_
  rintro e w' ⟨g, D, rfl, h1, h2, h3, h4⟩
  have H := hid (And.intro h1 (And.intro h2 (And.intro h3 h4)))
  clear h1 h2 h3 h4
  go_wp2
  go_ret
  exact ⟨g, D, rfl, H.out⟩

set_option maxHeartbeats 1600000 in
set_option maxRecDepth 100000 in
theorem decode_calls (i s m g c : Nat) (F : Nat → Value) (w : World) (hs : 1 ≤ s) (hs2 : s ≤ 16) (hi : i ≤ 1048576) (hm : m ≤ 1048576) (hr : Row w g 3 m F) :
    Calls Tryd.prog 20 #[.int .i64 i, .int .i64 s, .slice (some ⟨g, 0, none⟩) m c] w fun e w' => e = .returned (.tuple #[]) ∧ DRow w' g m (dg s m i) ∧ Kp [g] w w' := by
  have HR := hid hr
  have hs0 : ¬ (s : Int) = 0 := by omega
  clear hr
  go_enter Tryd.func20, Tryd.ntmps20
  go_wp2
  go_loopw [0, 6] (fun x j wr => ∃ k q : Nat, k ≤ m ∧ j = .int .i64 ((k : Int) - 1) ∧ x = .int .i64 q ∧ Hid (q = i / s ^ (m - k)) ∧ q ≤ 1048576 ∧ Row wr g 3 m (fun q => if k ≤ q then .int .i64 (dg s m i q : Nat) else F q) ∧ Kp [g] w wr) (fun _ j _ => (intOf j + 1).toNat)
  case atStart => exact ⟨m, i, by omega, by go_num, rfl, by simp [Hid], hi, HR.out.congr (fun q hq => by rw [if_neg (by omega)]), Kp.refl _ _⟩
  case round =>
    obtain ⟨k, q, hk, rfl, rfl, HQ, hq, hr, hkp⟩ := hrel
    have HRr := hid hr
    have HK := hid hkp
    by_cases h0 : k = 0
    · subst h0
      clear hr hkp
      go_wp2
      go_end0
      exact ⟨rfl, HRr.out.congr (fun q hq => by simp), HK.out⟩
    · obtain ⟨j, rfl⟩ : ∃ j, k = j + 1 := ⟨k - 1, by omega⟩
      have hcj := hr.cell (i := j) (by omega)
      have hfj := hr.frozen j
      obtain ⟨r, hrr⟩ : ∃ r, r = q % s := ⟨_, rfl⟩
      obtain ⟨t, htt⟩ : ∃ t, t = q / s := ⟨_, rfl⟩
      have hrI : (q : Int) % (s : Int) = (r : Int) := by rw [hrr]; simp
      have htI : (q : Int) / (s : Int) = (t : Int) := by rw [htt]; simp
      have hrb : r < 16 := by rw [hrr]; exact Nat.lt_of_lt_of_le (Nat.mod_lt _ hs) hs2
      have htb : t ≤ 1048576 := by rw [htt]; exact Nat.le_trans (Nat.div_le_self _ _) hq
      have HRR := hid hrr
      have HTT := hid htt
      clear hr hkp hrr htt
      go_wp2
      go_roundw
      case rel =>
        refine ⟨j, t, by omega, by go_num, rfl, ?_, htb, (HRr.out.set j _).congr (fun v hv => ?_), HK.out.setCell (.inl (by simp)) _⟩
        · show t = _
          rw [HTT.out, HQ.out, Nat.div_div_eq_div_mul, ← Nat.pow_succ, show (m - (j + 1)).succ = m - j by omega]
        · by_cases e : v = j
          · subst e
            have e2 : dg s m i v = r := by unfold dg; rw [HRR.out, HQ.out, show m - 1 - v = m - (v + 1) by omega]
            simp [e2]
          · by_cases e2 : j ≤ v
            · have e3 : j + 1 ≤ v := by omega
              simp [e, e2, e3]
            · have e3 : ¬ j + 1 ≤ v := by omega
              simp [e, e2, e3]
      case measure => simp [intOf]

/-- The first m agree on a number below md. -/
def sbB (m : Nat) (md : Int) (f : Nat → Int) : Bool := decide ((∀ j, j < m → f j = f 0) ∧ f 0 < md)

set_option maxHeartbeats 1600000 in
set_option maxRecDepth 100000 in
theorem sameBelow_calls (m g c : Nat) (md : Int) (f : Nat → Int) (w : World) (hm1 : 1 ≤ m) (hm : m ≤ 1048576) (hr : ∀ i, i < m → w.cell? ⟨g, i, none⟩ = some (.int .i64 (f i))) :
    Calls Tryd.prog 21 #[.slice (some ⟨g, 0, none⟩) m c, .int .i64 md] w fun e w' => e = .returned (.bool (sbB m md f)) ∧ ∃ q, w' = w.drewN q := by
  have HR := hid hr
  have c0 := hr 0 hm1
  clear hr
  go_enter Tryd.func21, Tryd.ntmps21
  go_wp2
  go_loopw [5] (fun i wr => ∃ k q : Nat, k ≤ m ∧ 1 ≤ k ∧ i = .int .i64 k ∧ (∀ j, j < k → f j = f 0) ∧ wr = w.drewN q) (fun i _ => m - (intOf i).toNat)
  case atStart => exact ⟨1, 0, by omega, by omega, rfl, fun j hj => by rw [show j = 0 by omega], rfl⟩
  case round =>
    obtain ⟨k, q, hk, hk1, rfl, hall, rfl⟩ := hrel
    have HA := hid hall
    clear hall
    by_cases hlt : k < m
    · have ck := HR.out k hlt
      go_wp2
      by_cases e : f k = f 0
      · have eb : (f k != f 0) = false := by simp [e]
        have HE := hid e
        clear e
        go_quiet (fail)
        go_wp2
        go_roundw
        case rel => exact ⟨k + 1, _, by omega, by omega, by go_num, fun j hj => by
          by_cases e : j = k
          · rw [e]; exact HE.out
          · exact HA.out j (by omega), rfl⟩
        case measure => simp [intOf]; omega
      · have eb : (f k != f 0) = true := by simpa using e
        have HE : Hid (sbB m md f = false) := by
          show sbB m md f = false
          unfold sbB
          exact decide_eq_false (fun h => e (h.1 k hlt))
        clear e
        go_quiet (fail)
        go_wp2
        go_ret
        exact ⟨by rw [HE.out]; rfl, _, World.drewN_drewN _ _ _⟩
    · obtain rfl : m = k := by omega
      by_cases e : f 0 < md
      · have HE : Hid (sbB m md f = true) := by
          show sbB m md f = true
          unfold sbB
          exact decide_eq_true ⟨HA.out, e⟩
        go_wp2
        go_ret
        exact ⟨by rw [HE.out]; rfl, _, rfl⟩
      · have HE : Hid (sbB m md f = false) := by
          show sbB m md f = false
          unfold sbB
          exact decide_eq_false (fun h => e h.2)
        go_wp2
        go_ret
        exact ⟨by rw [HE.out]; rfl, _, rfl⟩
end Go.Proofs.Qxb6615056aDoor

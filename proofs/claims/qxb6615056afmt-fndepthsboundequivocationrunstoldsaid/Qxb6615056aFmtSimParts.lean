/-
  THE WALKS OF THE DOMAIN's TESTS AND THE SMALL MAKERS: countTrue (37), tableShape (36), simDomain (13), weightsFor (17), bitsFor (18), zzBytes (12, 25).
-/
import Derived.Test.Qxb6615056aFmtClones
namespace Go.Proofs.Qxb6615056aFmt
open Go.RowKit Go.Tocsin

/-- How many of the first n are marked. -/
def cnt (fb : Nat → Bool) : Nat → Nat
  | 0 => 0
  | n + 1 => cnt fb n + if fb n then 1 else 0
theorem cnt_le (fb : Nat → Bool) (n : Nat) : cnt fb n ≤ n := by
  induction n with
  | zero => simp [cnt]
  | succ n ih => simp only [cnt]; split <;> omega

set_option maxHeartbeats 800000 in
set_option maxRecDepth 100000 in
theorem countTrue_calls (b off n cap : Nat) (fb : Nat → Bool) (w : World) (hn : n ≤ 1048576) (hc : ∀ i, i < n → w.cell? ⟨b, off + i, none⟩ = some (.bool (fb i))) :
    Calls Tryf.prog 37 #[.slice (some ⟨b, off, none⟩) n cap] w fun e w' => e = .returned (.int .i64 (cnt fb n : Nat)) ∧ w' = w := by
  have HC := hid hc
  clear hc
  go_enter Tryf.func37, Tryf.ntmps37
  go_wp2
  go_loop [3, 4] (fun c i => ∃ k : Nat, k ≤ n ∧ i = .int .i64 k ∧ c = .int .i64 (cnt fb k : Nat)) (fun _ i => n - (intOf i).toNat)
  case atStart => exact ⟨0, by omega, rfl, rfl⟩
  case round =>
    obtain ⟨k, hk, rfl, rfl⟩ := hrel
    have hle := cnt_le fb k
    by_cases hlt : k < n
    · have hck := HC.out k hlt
      have HS : Hid (cnt fb (k + 1) = cnt fb k + if fb k then 1 else 0) := rfl
      generalize cnt fb (k + 1) = c1 at *
      cases hb : fb k
      · rw [hb] at hck
        have HB := hid hb
        clear hb
        go_wp2
        go_round
        case rel => exact ⟨k + 1, by omega, by go_num, by show _ = Value.int .i64 ((cnt fb k + if fb k then 1 else 0 : Nat) : Int); rw [HB.out]; rfl⟩
        case measure => simp [intOf]; omega
      · rw [hb] at hck
        have HB := hid hb
        clear hb
        go_wp2
        go_round
        case rel => exact ⟨k + 1, by omega, by go_num, by show _ = Value.int .i64 ((cnt fb k + if fb k then 1 else 0 : Nat) : Int); rw [HB.out]; go_num⟩
        case measure => simp [intOf]; omega
    · obtain rfl : k = n := by omega
      go_wp2
      go_ret
      exact ⟨rfl, rfl⟩

set_option maxHeartbeats 1600000 in
set_option maxRecDepth 100000 in
theorem tableShape_none (a : Option Addr) (cap s n : Nat) (w : World) (hs : 1 ≤ s) (hn : 1 ≤ n) (hs2 : s ≤ 256) (hn2 : n ≤ 1048576) :
    Calls Tryf.prog 36 #[.int .i64 s, .int .i64 n, .slice a 0 cap] w fun e w' => e = .returned (.bool false) ∧ w' = w := by
  have hn' : ¬ n = 0 := by omega
  go_enter Tryf.func36, Tryf.ntmps36
  go_wp2
  go_loop [7, 8] (fun p i => p = .int .i64 1 ∧ i = .int .i64 0) (fun _ _ => 0)
  case atStart => exact ⟨rfl, rfl⟩
  case round =>
    obtain ⟨rfl, rfl⟩ := hrel
    have hlt : (0 : Int) < (n : Int) := by omega
    go_wp2
    go_ret
    exact ⟨rfl, rfl⟩

set_option maxHeartbeats 1600000 in
set_option maxRecDepth 100000 in
theorem tableShape_some (b off len cap s n : Nat) (nx : Nat → Nat) (w : World) (hs : 1 ≤ s) (hn : 1 ≤ n) (hs2 : s ≤ 256) (hn2 : n ≤ 1048576) (hl : len ≤ 1048576)
    (hb : ∀ i, nx i < 256) (hc : ∀ i, i < len → w.cell? ⟨b, off + i, none⟩ = some (.int .u8 (nx i : Nat))) :
    Calls Tryf.prog 36 #[.int .i64 s, .int .i64 n, .slice (some ⟨b, off, none⟩) len cap] w fun e w' => SaysB (s ^ n * n = len ∧ ∀ i, i < len → nx i < s) e ∧ w' = w := by
  have hn' : ¬ n = 0 := by omega
  have HC := hid hc
  have HB := hid hb
  clear hc hb
  by_cases hG : ((len : Int) % (n : Int) != 0) = true
  · go_enter Tryf.func36, Tryf.ntmps36
    go_wp2
    go_ret
    exact ⟨SaysB.no _, rfl⟩
  have hG' : ((len : Int) % (n : Int) != 0) = false := by simpa using hG
  have HM : Hid (len % n = 0) := by
    have : ((len % n : Nat) : Int) = 0 := by simpa using hG'
    show len % n = 0
    omega
  clear hG
  obtain ⟨d, hd⟩ : ∃ d, d = len / n := ⟨_, rfl⟩
  have hdI : (len : Int) / (n : Int) = (d : Int) := by rw [hd]; simp
  have hd2 : d ≤ 1048576 := by rw [hd]; exact Nat.le_trans (Nat.div_le_self _ _) hl
  have HD := hid hd
  clear hd
  go_enter Tryf.func36, Tryf.ntmps36
  go_wp2
  go_loop [7, 8] (fun p i => ∃ k q : Nat, k ≤ n ∧ i = .int .i64 k ∧ p = .int .i64 q ∧ Hid (q = s ^ k) ∧ q ≤ 268435456) (fun _ i => n - (intOf i).toNat)
  case atStart => exact ⟨0, 1, by omega, rfl, rfl, by simp [Hid], by omega⟩
  case round =>
    obtain ⟨k, q, hk, rfl, rfl, HQ, hq⟩ := hrel
    by_cases hlt : k < n
    · by_cases hpl : (len : Int) < (q : Int)
      · go_wp2
        go_ret
        exact ⟨SaysB.no _, rfl⟩
      · have hqs : q * s ≤ 1048576 * 256 := Nat.mul_le_mul (by omega) hs2
        have hb0 : (0 : Int) ≤ (q : Int) * (s : Int) := by rw [← Int.natCast_mul]; omega
        have hb1 : (q : Int) * (s : Int) ≤ 268435456 := by rw [← Int.natCast_mul]; omega
        go_wp2
        go_round
        case rel => exact ⟨k + 1, q * s, by omega, by go_num, by rw [Int.natCast_mul], by show q * s = s ^ (k + 1); rw [HQ.out, Nat.pow_succ], by omega⟩
        case measure => simp [intOf]; omega
    · obtain rfl : k = n := by omega
      by_cases hqd : ((q : Int) != (d : Int)) = true
      · go_wp2
        go_ret
        exact ⟨SaysB.no _, rfl⟩
      have hqd' : ((q : Int) != (d : Int)) = false := by simpa using hqd
      have HE : Hid (s ^ k * k = len) := by
        have : q = d := by
          have : (q : Int) = (d : Int) := by simpa using hqd'
          omega
        show s ^ k * k = len
        rw [← HQ.out, this, HD.out]
        exact Nat.div_mul_cancel (Nat.dvd_of_mod_eq_zero HM.out)
      clear hqd
      go_wp2
      go_loop [9] (fun i => ∃ j : Nat, j ≤ len ∧ i = .int .i64 j ∧ Hid (∀ t, t < j → nx t < s)) (fun i => len - (intOf i).toNat)
      case atStart => exact ⟨0, by omega, rfl, fun t h => by omega⟩
      case round =>
        obtain ⟨j, hj, rfl, HJ⟩ := hrel
        by_cases hjl : j < len
        · have hcj := HC.out j hjl
          have hbj := HB.out j
          by_cases hv : (s : Int) ≤ (nx j : Int)
          · go_wp2
            go_ret
            exact ⟨SaysB.no _, rfl⟩
          · go_wp2
            go_round
            case rel =>
              refine ⟨j + 1, by omega, by go_num, fun t h => ?_⟩
              by_cases e : t = j
              · subst e; omega
              · exact HJ.out t (by omega)
            case measure => simp [intOf]; omega
        · obtain rfl : j = len := by omega
          go_wp2
          go_ret
          exact ⟨SaysB.yes ⟨HE.out, HJ.out⟩, rfl⟩

/-- The cells of a slice, wherever it lies; a slice without an element may be nil. -/
def SlAt (w : World) (a : Option Addr) (n : Nat) (F : Nat → Value) : Prop :=
  0 < n → ∃ b off, a = some ⟨b, off, none⟩ ∧ ∀ i, i < n → w.cell? ⟨b, off + i, none⟩ = some (F i)

structure SimDom (s : Int) (n ln li : Nat) (nx : Nat → Nat) (fb : Nat → Bool) (ini : Nat → Int) (S : Nat) : Prop where
  hs : s = (S : Int)
  s1 : 1 ≤ S
  s2 : S ≤ 256
  n1 : 1 ≤ n
  n2 : n ≤ 4096
  li_eq : li = n
  shape : S ^ n * n = ln
  nxs : ∀ i, i < ln → nx i < S
  few : cnt fb n ≤ (n - 1) / 3
  inis : ∀ u, u < n → fb u = false → 0 ≤ ini u ∧ ini u < S

set_option maxHeartbeats 3200000 in
set_option maxRecDepth 100000 in
theorem simDomain_calls (s : Int) (an af ai : Option Addr) (ln cn n cf li ci : Nat) (nx : Nat → Nat) (fb : Nat → Bool) (ini : Nat → Int) (w : World) (hln : ln ≤ 1048576) (hn : n ≤ 1048576) (hli : li ≤ 1048576) (hb : ∀ i, nx i < 256)
    (hN : SlAt w an ln (fun i => .int .u8 (nx i : Nat))) (hF : SlAt w af n (fun i => .bool (fb i))) (hI : SlAt w ai li (fun i => .int .i64 (ini i))) :
    Calls Tryf.prog 13 #[.int .i64 s, .slice an ln cn, .slice af n cf, .slice ai li ci] w fun e w' => SaysB (∃ S, SimDom s n ln li nx fb ini S) e ∧ w' = w := by
  by_cases h1 : s < 1
  · go_enter Tryf.func13, Tryf.ntmps13
    go_wp2
    go_ret
    exact ⟨SaysB.no _, rfl⟩
  by_cases h2 : 256 < s
  · go_enter Tryf.func13, Tryf.ntmps13
    go_wp2
    go_ret
    exact ⟨SaysB.no _, rfl⟩
  by_cases h3 : (n : Int) < 1
  · go_enter Tryf.func13, Tryf.ntmps13
    go_wp2
    go_ret
    exact ⟨SaysB.no _, rfl⟩
  by_cases h4 : (4096 : Int) < (n : Int)
  · go_enter Tryf.func13, Tryf.ntmps13
    go_wp2
    go_ret
    exact ⟨SaysB.no _, rfl⟩
  by_cases h5 : ((li : Int) != (n : Int)) = true
  · go_enter Tryf.func13, Tryf.ntmps13
    go_wp2
    go_ret
    exact ⟨SaysB.no _, rfl⟩
  have hlin : li = n := by
    have : (li : Int) = (n : Int) := by simpa using h5
    omega
  subst hlin
  clear h5
  obtain ⟨S, rfl⟩ := Int.eq_ofNat_of_zero_le (show 0 ≤ s by omega)
  obtain ⟨bf, of', rfl, cf'⟩ := hF (by omega)
  obtain ⟨bi, oi, rfl, ci'⟩ := hI (by omega)
  have HF := hid cf'
  have HI := hid ci'
  have HCnt := hid (countTrue_calls bf of' li cf fb w hn cf')
  clear cf' ci' hF hI
  have HT : Hid (Calls Tryf.prog 36 #[.int .i64 S, .int .i64 li, .slice an ln cn] w fun e w' => SaysB (S ^ li * li = ln ∧ ∀ i, i < ln → nx i < S) e ∧ w' = w) := by
    by_cases h0 : ln = 0
    · subst h0
      exact (tableShape_none an cn S li w (by omega) (by omega) (by omega) (by omega)).mono fun e w' h => ⟨by rw [h.1]; exact SaysB.no _, h.2⟩
    · obtain ⟨bn, on, rfl, hc⟩ := hN (by omega)
      exact tableShape_some bn on ln cn S li nx w (by omega) (by omega) (by omega) (by omega) hln hb hc
  clear hN hb
  go_enter Tryf.func13, Tryf.ntmps13
  go_wp2_with fail
  refine HT.out.mono ?_
  rintro e w' ⟨⟨β, rfl, hβ⟩, rfl⟩
  cases β
  · clear hβ
    go_wp2
    go_ret
    exact ⟨SaysB.no _, rfl⟩
  have HB := hid (hβ rfl)
  have hcl := cnt_le fb li
  clear hβ HT
  go_wp2_with fail
  refine HCnt.out.mono ?_
  rintro e w' ⟨rfl, rfl⟩
  by_cases h6 : ((li : Int) - 1) / 3 < (cnt fb li : Int)
  · go_wp2
    go_ret
    exact ⟨SaysB.no _, rfl⟩
  go_wp2
  go_loop [10] (fun i => ∃ k : Nat, k ≤ li ∧ i = .int .i64 k ∧ Hid (∀ u, u < k → fb u = false → 0 ≤ ini u ∧ ini u < S)) (fun i => li - (intOf i).toNat)
  case atStart => exact ⟨0, by omega, rfl, fun u h => by omega⟩
  case round =>
    obtain ⟨k, hk, rfl, HK⟩ := hrel
    by_cases hlt : k < li
    · have hcf := HF.out k hlt
      have hci := HI.out k hlt
      cases hb : fb k
      · rw [hb] at hcf
        by_cases h7 : ini k < 0
        · go_wp2
          go_ret
          exact ⟨SaysB.no _, rfl⟩
        by_cases h8 : (S : Int) ≤ ini k
        · go_wp2
          go_ret
          exact ⟨SaysB.no _, rfl⟩
        have HB' := hid hb
        clear hb
        go_wp2
        go_round
        case rel =>
          refine ⟨k + 1, by omega, by go_num, fun u h hu => ?_⟩
          by_cases e : u = k
          · subst e; exact ⟨by omega, by omega⟩
          · exact HK.out u (by omega) hu
        case measure => simp [intOf]; omega
      · rw [hb] at hcf
        have HB' := hid hb
        clear hb
        go_wp2
        go_round
        case rel =>
          refine ⟨k + 1, by omega, by go_num, fun u h hu => ?_⟩
          by_cases e : u = k
          · subst e; rw [HB'.out] at hu; cases hu
          · exact HK.out u (by omega) hu
        case measure => simp [intOf]; omega
    · obtain rfl : k = li := by omega
      go_wp2
      go_ret
      exact ⟨SaysB.yes ⟨S, ⟨rfl, by omega, by omega, by omega, by omega, rfl, HB.out.1, HB.out.2, by omega, HK.out⟩⟩, rfl⟩

set_option maxHeartbeats 800000 in
set_option maxRecDepth 100000 in
theorem bitsFor_calls (s : Int) (w : World) : Calls Tryf.prog 18 #[.int .i64 s] w fun e w' => (∃ b : Int, e = .returned (.int .i64 b)) ∧ w' = w := by
  go_enter Tryf.func18, Tryf.ntmps18
  go_wp2
  go_loop [3] (fun b => ∃ k : Nat, k ≤ 62 ∧ b = .int .i64 k) (fun b => 62 - (intOf b).toNat)
  case atStart => exact ⟨0, by omega, rfl⟩
  case round =>
    obtain ⟨k, hk, rfl⟩ := hrel
    by_cases hlt : k < 62
    · go_wp2
      · go_round
        case rel => exact ⟨k + 1, by omega, by go_num⟩
        case measure => simp [intOf]; omega
      · go_ret
        exact ⟨⟨_, rfl⟩, rfl⟩
    · go_wp2
      go_ret
      exact ⟨⟨_, rfl⟩, rfl⟩

set_option maxHeartbeats 1600000 in
set_option maxRecDepth 100000 in
theorem weightsFor_calls (s n : Nat) (w : World) (hs : 1 ≤ s) (hn : n ≤ 1048576) (hb : s ^ n ≤ 1048576) :
    Calls Tryf.prog 17 #[.int .i64 s, .int .i64 n] w fun e w' => ∃ g, e = .returned (.slice (some ⟨g, 0, none⟩) n n) ∧ w.heap.size ≤ g ∧ Row w' g 3 n (fun v => .int .i64 (s ^ (n - 1 - v) : Nat)) ∧ Kp [] w w' := by
  obtain ⟨i0, hi, hz0, hz1, hz2⟩ := info_parts Tryf.info3
  have HB := hid hb
  clear hb
  go_enter Tryf.func17, Tryf.ntmps17
  go_wp2_with (at_make; refine wpList_make_row _ rfl _ _ 22 rfl 3 i0 (.int .i64 0) 1 Tryf.underlying22 hi hz0 hz1 _ _ _ _ n rfl rfl rfl rfl (by rw [hz2]; omega) (by unfold maxLen; omega) (fun _ => .int .i64 0) (by rw [Nat.mul_one]; exact madeCells_one _ _) ?_; intro w1 hr1 hk1 hs1)
  go_loopw [6, 7] (fun p i wr => ∃ k q : Nat, k ≤ n ∧ i = .int .i64 ((n : Int) - 1 - k) ∧ p = .int .i64 q ∧ Hid (q = s ^ k) ∧ Row wr w.heap.size 3 n (fun v => .int .i64 (if n - k ≤ v then (s ^ (n - 1 - v) : Nat) else 0)) ∧ Kp [] w wr) (fun _ i _ => (intOf i + 1).toNat)
  case atStart => exact ⟨0, 1, by omega, by simp, rfl, by simp [Hid], by rw [Nat.mul_one] at hr1; exact hr1.congr (fun i h => by rw [if_neg (by omega)]), hk1⟩
  case round =>
    obtain ⟨k, q, hk, rfl, rfl, HQ, hr, hkp⟩ := hrel
    by_cases hlt : k < n
    · have hq : q ≤ 1048576 := by rw [HQ.out]; exact Nat.le_trans (Nat.pow_le_pow_right hs (by omega)) HB.out
      have hqs : q * s ≤ 1048576 := by rw [HQ.out, ← Nat.pow_succ]; exact Nat.le_trans (Nat.pow_le_pow_right hs (by omega)) HB.out
      have hb0 : (0 : Int) ≤ (q : Int) * (s : Int) := by rw [← Int.natCast_mul]; omega
      have hb1 : (q : Int) * (s : Int) ≤ 1048576 := by rw [← Int.natCast_mul]; omega
      have hcell := hr.cell (i := n - 1 - k) (by omega)
      have hfz := hr.frozen (n - 1 - k)
      have HR := hid hr
      have HK := hid hkp
      clear hr hkp
      go_wp2
      go_roundw
      case rel =>
        refine ⟨k + 1, q * s, by omega, by go_num, by rw [Int.natCast_mul], by show q * s = s ^ (k + 1); rw [HQ.out, Nat.pow_succ], (HR.out.set _ _).congr (fun v hv => ?_), HK.out.setCell (.inr (Nat.le_refl _)) _⟩
        by_cases e : v = n - 1 - k
        · rw [if_pos e, if_pos (by omega), HQ.out, show n - 1 - v = k by omega]
        · rw [if_neg e]
          by_cases e2 : n - k ≤ v
          · rw [if_pos e2, if_pos (by omega)]
          · rw [if_neg e2, if_neg (by omega)]
      case measure => simp [intOf]; omega
    · obtain rfl : k = n := by omega
      have HR := hid hr
      have HK := hid hkp
      clear hr hkp
      go_wp2
      go_ret
      exact ⟨w.heap.size, rfl, Nat.le_refl _, HR.out.congr (fun v hv => by rw [if_pos (by omega)]), HK.out⟩

set_option maxHeartbeats 1600000 in
set_option maxRecDepth 100000 in
theorem zzBytes12 (s x : Int) (a0 a1 a2 : Option Addr) (l0 c0 l1 c1 l2 c2 : Nat) (w : World) (h0 : l0 ≤ maxLen) (h1 : l1 ≤ maxLen) (h2 : l2 ≤ maxLen) :
    Calls Tryf.prog 12 #[.int .i64 s, .slice a0 l0 c0, .slice a1 l1 c1, .slice a2 l2 c2, .int .i64 x] w fun e w' => SaysB (l0 + l1 + l2 ≤ 1048576) e ∧ w' = w := by
  unfold maxLen at h0 h1 h2
  by_cases g0 : (1048576 : Int) < (l0 : Int)
  · go_enter Tryf.func12, Tryf.ntmps12
    go_wp2
    go_ret
    exact ⟨SaysB.no _, rfl⟩
  by_cases g1 : (1048576 : Int) < (l1 : Int)
  · go_enter Tryf.func12, Tryf.ntmps12
    go_wp2
    go_ret
    exact ⟨SaysB.no _, rfl⟩
  by_cases g2 : (1048576 : Int) < (l0 : Int) + (l1 : Int)
  · go_enter Tryf.func12, Tryf.ntmps12
    go_wp2
    go_ret
    exact ⟨SaysB.no _, rfl⟩
  by_cases g3 : (1048576 : Int) < (l2 : Int)
  · go_enter Tryf.func12, Tryf.ntmps12
    go_wp2
    go_ret
    exact ⟨SaysB.no _, rfl⟩
  by_cases g4 : (1048576 : Int) < (l0 : Int) + (l1 : Int) + (l2 : Int)
  · go_enter Tryf.func12, Tryf.ntmps12
    go_wp2
    go_ret
    exact ⟨SaysB.no _, rfl⟩
  · have hP : l0 + l1 + l2 ≤ 1048576 := by omega
    have HP := hid hP
    clear hP
    go_enter Tryf.func12, Tryf.ntmps12
    go_wp2
    go_ret
    exact ⟨SaysB.yes HP.out, rfl⟩

set_option maxHeartbeats 1600000 in
set_option maxRecDepth 100000 in
theorem zzBytes25 (s x y : Int) (a0 a1 a2 : Option Addr) (l0 c0 l1 c1 l2 c2 : Nat) (w : World) (h0 : l0 ≤ maxLen) (h1 : l1 ≤ maxLen) (h2 : l2 ≤ maxLen) :
    Calls Tryf.prog 25 #[.int .i64 s, .slice a0 l0 c0, .slice a1 l1 c1, .slice a2 l2 c2, .int .i64 x, .int .i64 y] w fun e w' => SaysB (l0 + l1 + l2 ≤ 1048576) e ∧ w' = w := by
  unfold maxLen at h0 h1 h2
  by_cases g0 : (1048576 : Int) < (l0 : Int)
  · go_enter Tryf.func25, Tryf.ntmps25
    go_wp2
    go_ret
    exact ⟨SaysB.no _, rfl⟩
  by_cases g1 : (1048576 : Int) < (l1 : Int)
  · go_enter Tryf.func25, Tryf.ntmps25
    go_wp2
    go_ret
    exact ⟨SaysB.no _, rfl⟩
  by_cases g2 : (1048576 : Int) < (l0 : Int) + (l1 : Int)
  · go_enter Tryf.func25, Tryf.ntmps25
    go_wp2
    go_ret
    exact ⟨SaysB.no _, rfl⟩
  by_cases g3 : (1048576 : Int) < (l2 : Int)
  · go_enter Tryf.func25, Tryf.ntmps25
    go_wp2
    go_ret
    exact ⟨SaysB.no _, rfl⟩
  by_cases g4 : (1048576 : Int) < (l0 : Int) + (l1 : Int) + (l2 : Int)
  · go_enter Tryf.func25, Tryf.ntmps25
    go_wp2
    go_ret
    exact ⟨SaysB.no _, rfl⟩
  · have hP : l0 + l1 + l2 ≤ 1048576 := by omega
    have HP := hid hP
    clear hP
    go_enter Tryf.func25, Tryf.ntmps25
    go_wp2
    go_ret
    exact ⟨SaysB.yes HP.out, rfl⟩

end Go.Proofs.Qxb6615056aFmt

/-
  THE WALK OF FnShowEquivocationHalves (3).
-/
import Derived.Test.Qxb6615056aFmtRound
namespace Go.Proofs.Qxb6615056aFmt.fnShowEquivocationHalves
open Go.ChangeShapes Go.WideShapes Go.ChangeAt Go.RowKit Go.Tocsin
set_option linter.unusedVariables false

/-- WHAT THE WALK IS TOLD OF A SLICE OF INTEGERS THAT CAME IN: it is nil; or it leads to a row of 'cap' cells, the numbers 'zs' (the first 'len' are its elements, the rest its spare room), each fitting its kind. -/
def IsRow (k : IntKind) (w : World) (a : Option Addr) (len cap : Nat) (zs : List Int) : Prop :=
  (a = none ∧ len = 0 ∧ cap = 0 ∧ zs = []) ∨
  ∃ x, a = some x ∧ len ≤ cap ∧ cap ≤ maxLen ∧ zs.length = cap ∧ (∀ i, i < zs.length → w.cell? (x.add i) = some (.int k (zs.getD i 0))) ∧ ∀ n ∈ zs, (Lit.int k n).wf = true

theorem IsRow.len_le {k : IntKind} {w : World} {a : Option Addr} {len cap : Nat} {zs : List Int} (h : IsRow k w a len cap zs) : len ≤ maxLen := by
  rcases h with ⟨_, rfl, _, _⟩ | ⟨_, _, h1, h2, _⟩
  · exact Nat.zero_le _
  · omega

/-- A slice with an element: where it lies, and its cells. -/
theorem IsRow.some {k : IntKind} {w : World} {a : Option Addr} {len cap : Nat} {zs : List Int} (h : IsRow k w a len cap zs) (h0 : 0 < len) :
    ∃ b off, a = some ⟨b, off, none⟩ ∧ ∀ i, i < len → w.cell? ⟨b, off + i, none⟩ = some (.int k (zs.getD i 0)) := by
  rcases h with ⟨_, rfl, _, _⟩ | ⟨x, rfl, h1, h2, h3, hc, _⟩
  · omega
  · obtain ⟨b, off, spot⟩ := x
    have hspot : spot = none := by simpa [Addr.add] using World.cell?_spot (hc 0 (by omega))
    subst hspot
    exact ⟨b, off, rfl, fun i hi => by have := hc i (by omega); rwa [Addr.add_lit] at this⟩

set_option maxHeartbeats 1600000 in
set_option maxRecDepth 100000 in
theorem zzShow_calls (rb kb kn kcap cb sb slen scap n words mb mcap r src : Nat) (num snd : Int) (f : Nat → Nat) (M S : Nat → Value) (w : World) (hnum : 1 ≤ num)
    (c0 : w.cell? ⟨rb, 0, none⟩ = some (.int .i64 num)) (c1 : w.cell? ⟨rb, 1, none⟩ = some (.slice (some ⟨kb, 0, none⟩) kn kcap)) (c2 : w.cell? ⟨rb, 2, none⟩ = some (.int .i64 words)) (c4 : w.cell? ⟨rb, 4, none⟩ = some (.slice (some ⟨sb, 0, none⟩) slen scap)) (c5 : w.cell? ⟨rb, 5, none⟩ = some (.slice (some ⟨cb, 0, none⟩) n n))
    (hK : ∀ i, i < kn → w.cell? ⟨kb, i, none⟩ = some (.int .i64 (f i : Nat))) (hr : r < kn) (hkn : kn ≤ 1048576) (hf : ∀ i j, i < j → j < kn → f i < f j) (hfn : ∀ i, i < kn → f i < n)
    (d0 : ∀ i, i < n → w.cell? ⟨cb, i * 2, none⟩ = some (.int .i64 0)) (d1 : ∀ i, i < n → w.cell? ⟨cb, i * 2 + 1, none⟩ = some (.slice none 0 0)) (hn : n ≤ 1048576)
    (hw : 1 ≤ words) (hp : n * words ≤ slen) (hl : slen ≤ scap) (hsl : slen ≤ 1048576)
    (hS : ∀ i, i < slen → w.cell? ⟨sb, i, none⟩ = some (S i)) (h1 : ∀ i, (S i).oneCell' = true) (hM : Row w mb 30 words M) (hsrc : src = if 2 * r < kn then f 0 else f (kn - 1)) :
    Calls Tryf.prog 11 #[.pointer (some ⟨rb, 0, none⟩), .int .i64 snd, .int .i64 (f r : Nat), .slice (some ⟨mb, 0, none⟩) words mcap] w fun e w' => e = .returned (.tuple #[]) ∧ Row w' mb 30 words (fun k => S (src * words + k)) ∧ Kp [mb] w w' := by
  have HS := hid (show_calls rb 0 kb kn kcap cb sb slen scap n words mb mcap r src num snd f M S w hnum c0 (by simpa using c1) (by simpa using c2) (by simpa using c4) (by simpa using c5) hK hr hkn hf hfn d0 d1 hn hw hp hl hsl hS h1 hM hsrc)
  clear c0 c1 c2 c4 c5 hK hf hfn d0 d1 hS hM hsrc
  go_enter Tryf.func11, Tryf.ntmps11
  go_wp2_with (go_at_call 35; refine HS.out.mono ?_; rintro e w1 ⟨rfl, hr1, hk1⟩)
  go_end0
  exact ⟨rfl, hr1, hk1⟩

theorem crash0 {w : World} {cb n : Nat} (h : Row w cb 118 (n * 2) crashF) {i : Nat} (hi : i < n) : w.cell? ⟨cb, i * 2, none⟩ = some (.int .i64 0) := by
  rw [h.cell (by omega)]; simp [crashF]
theorem crash1 {w : World} {cb n : Nat} (h : Row w cb 118 (n * 2) crashF) {i : Nat} (hi : i < n) : w.cell? ⟨cb, i * 2 + 1, none⟩ = some (.slice none 0 0) := by
  rw [h.cell (by omega)]
  have : (i * 2 + 1) % 2 = 1 := by omega
  simp [crashF, this]

theorem mono_of_step {k : Nat} {F : Nat → Nat} (h : ∀ i, i + 1 < k → F i < F (i + 1)) : ∀ i j, i < j → j < k → F i < F j := by
  intro i j hij hj
  induction j with
  | zero => omega
  | succ j ih =>
    have h1 := h j hj
    by_cases e : i = j
    · subst e; exact h1
    · have := ih (by omega) (by omega); omega

set_option maxHeartbeats 4000000 in
set_option maxRecDepth 100000 in
theorem walk (a0 : Option Addr) (len0 cap0 : Nat) (z0 : List Int) (a1 : Option Addr) (len1 cap1 : Nat) (z1 : List Int) (a2 : Int) (a3 : Int) (a4 : Int) (w : World) (w0 : IsRow .i64 w a0 len0 cap0 z0) (w1 : IsRow .u64 w a1 len1 cap1 z1) (w2 : (Lit.int .i64 a2).wf = true) (w3 : (Lit.int .i64 a3).wf = true) (w4 : (Lit.int .i64 a4).wf = true) :
    Calls Tryf.prog 3 #[.slice a0 len0 cap0, .slice a1 len1 cap1, .int .i64 a2, .int .i64 a3, .int .i64 a4] w fun e w' => e = .returned (.bool true) ∧ Below w.heap.size w w' := by
  obtain ⟨i0, hi, hz0, hz1, hz2⟩ := info_parts Tryf.info30
  have HZ := hid (zzBytes7 a0 a1 len0 cap0 len1 cap1 a2 a3 a4 w w0.len_le w1.len_le)
  have hl0 := w0.len_le
  have hl1 := w1.len_le
  unfold maxLen at hl0 hl1
  by_cases hA : len0 + len1 ≤ 1048576
  rotate_left
  · rw [decide_eq_false hA] at HZ
    go_enter Tryf.func3, Tryf.ntmps3
    go_wp2_with (go_at_call 7; refine HZ.out.mono ?_; rintro e w1 ⟨rfl, rfl⟩)
    go_ret
    exact ⟨rfl, Below.refl _ _⟩
  rw [decide_eq_true hA] at HZ
  by_cases hB : (131072 : Int) < (len0 : Int)
  · go_enter Tryf.func3, Tryf.ntmps3
    go_wp2_with (go_at_call 7; refine HZ.out.mono ?_; rintro e w1 ⟨rfl, rfl⟩)
    go_ret
    exact ⟨rfl, Below.refl _ _⟩
  by_cases hC : (131072 : Int) - (len0 : Int) < (len1 : Int)
  · go_enter Tryf.func3, Tryf.ntmps3
    go_wp2_with (go_at_call 7; refine HZ.out.mono ?_; rintro e w1 ⟨rfl, rfl⟩)
    go_ret
    exact ⟨rfl, Below.refl _ _⟩
  by_cases hD : a2 < 1
  · go_enter Tryf.func3, Tryf.ntmps3
    go_wp2_with (go_at_call 7; refine HZ.out.mono ?_; rintro e w1 ⟨rfl, rfl⟩)
    go_ret
    exact ⟨rfl, Below.refl _ _⟩
  by_cases hE : 65536 < a2
  · go_enter Tryf.func3, Tryf.ntmps3
    go_wp2_with (go_at_call 7; refine HZ.out.mono ?_; rintro e w1 ⟨rfl, rfl⟩)
    go_ret
    exact ⟨rfl, Below.refl _ _⟩
  by_cases hF : a3 < 1
  · go_enter Tryf.func3, Tryf.ntmps3
    go_wp2_with (go_at_call 7; refine HZ.out.mono ?_; rintro e w1 ⟨rfl, rfl⟩)
    go_ret
    exact ⟨rfl, Below.refl _ _⟩
  obtain ⟨words, rfl⟩ := Int.eq_ofNat_of_zero_le (show 0 ≤ a2 by omega)
  by_cases hG : ((len1 : Int) % (words : Int) != 0) = true
  · go_enter Tryf.func3, Tryf.ntmps3
    go_wp2_with (go_at_call 7; refine HZ.out.mono ?_; rintro e w1 ⟨rfl, rfl⟩)
    go_ret
    exact ⟨rfl, Below.refl _ _⟩
  have hG' : ((len1 : Int) % (words : Int) != 0) = false := by simpa using hG
  clear hG
  by_cases hH : ((len0 : Int) == 0) = true
  · go_enter Tryf.func3, Tryf.ntmps3
    go_wp2_with (go_at_call 7; refine HZ.out.mono ?_; rintro e w1 ⟨rfl, rfl⟩)
    go_ret
    exact ⟨rfl, Below.refl _ _⟩
  have hH' : ((len0 : Int) == 0) = false := by simpa using hH
  clear hH
  obtain ⟨b0, o0, rfl, hc0⟩ := w0.some (by simp at hH'; omega)
  clear w0 w3 w4
  obtain ⟨n, hn⟩ : ∃ n, n = len1 / words := ⟨_, rfl⟩
  have hnI : (len1 : Int) / (words : Int) = (n : Int) := by rw [hn]; simp
  have HN := hid hn
  have HC0 := hid hc0
  have HW1 := hid w1
  have hnb : n ≤ 131072 := by rw [hn]; exact Nat.le_trans (Nat.div_le_self _ _) (by omega)
  clear hn hc0 w1
  obtain ⟨f, hf⟩ : ∃ f : Nat → Int, f = fun i => z0.getD i 0 := ⟨_, rfl⟩
  have HC0 : Hid (∀ i, i < len0 → w.cell? ⟨b0, o0 + i, none⟩ = some (.int .i64 (f i))) := by rw [hf]; exact HC0
  clear hf
  go_enter Tryf.func3, Tryf.ntmps3
  go_wp2_with (go_at_call 7; refine HZ.out.mono ?_; rintro e w' ⟨rfl, rfl⟩)
  clear HZ
  go_loopw [12] (fun i wr => ∃ k q : Nat, k ≤ len0 ∧ i = .int .i64 k ∧ wr = w'.drewN q ∧ (∀ j, j < k → 0 ≤ f j ∧ f j < n ∧ (0 < j → f (j - 1) < f j))) (fun i _ => len0 - (intOf i).toNat)
  case atStart => exact ⟨0, 0, by omega, rfl, rfl, fun j hj => by omega⟩
  case round =>
    obtain ⟨k, q, hk, rfl, rfl, hall⟩ := hrel
    have HA := hid hall
    clear hall
    by_cases hlt : k < len0
    · have hck := HC0.out k hlt
      by_cases h1 : f k < 0
      · have hd : decide (f k < 0) = true := by simpa using h1
        go_wp2
        go_quiet (fail)
        go_wp2
        go_ret
        exact ⟨rfl, (((Kp.refl [] _).drewN _).drewN _).below (Nat.le_refl _) (by simp)⟩
      have hd1 : decide (f k < 0) = false := by simpa using h1
      by_cases h2 : (n : Int) ≤ f k
      · have hd : decide ((n : Int) ≤ f k) = true := by simpa using h2
        go_wp2
        go_quiet (fail)
        go_wp2
        go_ret
        exact ⟨rfl, (((Kp.refl [] _).drewN _).drewN _).below (Nat.le_refl _) (by simp)⟩
      have hd2 : decide ((n : Int) ≤ f k) = false := by simpa using h2
      by_cases h3 : k = 0
      · subst h3
        have hck' : w'.cell? ⟨b0, o0, none⟩ = some (.int .i64 (f 0)) := hck
        have hlt' : (0 : Int) < (len0 : Int) := by omega
        go_wp2
        go_quiet (fail)
        go_wp2
        go_roundw
        case rel =>
          refine ⟨1, _, by omega, rfl, rfl, fun j hj => ?_⟩
          obtain rfl : j = 0 := by omega
          exact ⟨by omega, by omega, by omega⟩
        case measure => simp [intOf]; omega
      have hd3 : 0 < k := by omega
      have hd4 : (0 : Int) < (k : Int) := by omega
      have hck1 := HC0.out (k - 1) (by omega)
      by_cases h4 : f k ≤ f (k - 1)
      · have hd : decide (f k ≤ f (k - 1)) = true := by simpa using h4
        go_wp2
        go_quiet (fail)
        go_wp2
        go_ret
        exact ⟨rfl, (((Kp.refl [] _).drewN _).drewN _).below (Nat.le_refl _) (by simp)⟩
      · have hd : decide (f k ≤ f (k - 1)) = false := by simpa using h4
        go_wp2
        go_quiet (fail)
        go_wp2
        go_roundw
        case rel =>
          refine ⟨k + 1, _, by omega, by go_num, rfl, fun j hj => ?_⟩
          by_cases e : j = k
          · subst e
            exact ⟨by omega, by omega, fun _ => by omega⟩
          · exact HA.out j (by omega)
        case measure => simp [intOf]; omega
    · obtain rfl : k = len0 := by omega
      obtain ⟨F, hF⟩ : ∃ F : Nat → Nat, F = fun i => (f i).toNat := ⟨_, rfl⟩
      have hfF : ∀ i, i < k → f i = (F i : Nat) := fun i hi => by have := (HA.out i hi).1; rw [hF]; simp; omega
      have hFn : ∀ i, i < k → F i < n := fun i hi => by have := (HA.out i hi).2.1; rw [hfF i hi] at this; omega
      have hstep : ∀ i, i + 1 < k → F i < F (i + 1) := fun i hi => by
        have := (HA.out (i + 1) hi).2.2 (by omega)
        rw [Nat.add_sub_cancel, hfF i (by omega), hfF (i + 1) hi] at this
        omega
      have hFs : ∀ i j, i < j → j < k → F i < F j := mono_of_step hstep
      have hk0 : 0 < k := by simp at hH'; omega
      have hn1 : 1 ≤ n := by have := hFn 0 hk0; omega
      have hnw : n * words = len1 := by
        have h1 : len1 % words = 0 := by
          have : ((len1 % words : Nat) : Int) = 0 := by simpa using hG'
          omega
        rw [HN.out]
        exact Nat.div_mul_cancel (Nat.dvd_of_mod_eq_zero h1)
      have hl1p : 0 < len1 := by rw [← hnw]; exact Nat.mul_pos hn1 (by omega)
      obtain ⟨b1, o1, rfl, hc1⟩ := HW1.out.some hl1p
      obtain ⟨s, hs⟩ : ∃ s : Nat → Int, s = fun i => z1.getD i 0 := ⟨_, rfl⟩
      have HC1 : Hid (∀ i, i < len1 → w'.cell? ⟨b1, o1 + i, none⟩ = some (.int .u64 (s i))) := by rw [hs]; exact hc1
      have HC0' : Hid (∀ i, i < k → w'.cell? ⟨b0, o0 + i, none⟩ = some (.int .i64 (F i : Nat))) := fun i hi => by rw [← hfF i hi]; exact HC0.out i hi
      have HFn := hid hFn
      have HFs := hid hFs
      have HNW := hid hnw
      clear hfF hFn hstep hFs hnw hc1 hs HA HN HW1 HC0 hF
      go_wp2_with fail
      refine (cloneInts_some b0 o0 k cap0 (fun i => .int .i64 (F i : Nat)) _ (by omega) (fun _ => rfl) (by exact HC0'.out)).mono ?_
      rintro e w1 ⟨g1, rfl, hg1, r1, k1⟩
      go_wp2_with fail
      refine (cloneU64_some b1 o1 len1 cap1 (fun i => .int .u64 (s i)) _ (by omega) (fun _ => rfl) (fun i h => by exact k1.cell' (HC1.out i h) (by simp))).mono ?_
      rintro e w2 ⟨g2, rfl, hg2, r2, k2⟩
      go_wp2_with fail
      refine (cloneInts_some g1 0 k k (fun i => .int .i64 (F i : Nat)) _ (by omega) (fun _ => rfl) (fun i h => by rw [Nat.zero_add]; exact k2.cell' (r1.cell h) (by simp))).mono ?_
      rintro e w3 ⟨g3, rfl, hg3, r3, k3⟩
      go_wp2_with fail
      refine (cloneU64_some g2 0 len1 len1 (fun i => .int .u64 (s i)) _ (by omega) (fun _ => rfl) (fun i h => by rw [Nat.zero_add]; exact k3.cell' (r2.cell h) (by simp))).mono ?_
      rintro e w4 ⟨g4, rfl, hg4, r4, k4⟩
      go_wp2_with fail
      refine (roundFor_calls n words len1 g3 k k g4 len1 len1 a3 _ (by omega) (by omega) (by exact HNW.out.symm)).mono ?_
      rintro e w5 ⟨rb, cb, rfl, hrb, hcb, c0, c1, c2, c4, c5, rc, k5⟩
      have Hk : Hid (Kp [] w' w5) := ((((((Kp.refl [] w').drewN q).trans k1 (by simp)).trans k2 (by simp)).trans k3 (by simp)).trans k4 (by simp)).trans k5 (by simp)
      have R1 : Hid (Row w5 g1 3 k fun i => .int .i64 (F i : Nat)) := (((r1.kp k2 (by simp)).kp k3 (by simp)).kp k4 (by simp)).kp k5 (by simp)
      have R2 : Hid (Row w5 g2 30 len1 fun i => .int .u64 (s i)) := ((r2.kp k3 (by simp)).kp k4 (by simp)).kp k5 (by simp)
      have R3 : Hid (Row w5 g3 3 k fun i => .int .i64 (F i : Nat)) := (r3.kp k4 (by simp)).kp k5 (by simp)
      have R4 : Hid (Row w5 g4 30 len1 fun i => .int .u64 (s i)) := r4.kp k5 (by simp)
      have RC : Hid (Row w5 cb 118 (n * 2) crashF) := rc
      have C : Hid (w5.cell? ⟨rb, 0, none⟩ = some (.int .i64 a3) ∧ w5.cell? ⟨rb, 1, none⟩ = some (.slice (some ⟨g3, 0, none⟩) k k) ∧ w5.cell? ⟨rb, 2, none⟩ = some (.int .i64 words) ∧ w5.cell? ⟨rb, 4, none⟩ = some (.slice (some ⟨g4, 0, none⟩) len1 len1) ∧ w5.cell? ⟨rb, 5, none⟩ = some (.slice (some ⟨cb, 0, none⟩) n n)) := ⟨c0, c1, c2, c4, c5⟩
      have hlow := R1.out.cell (i := 0) hk0
      have hhigh := R1.out.cell (i := k - 1) (by omega)
      obtain ⟨lo, hlo⟩ : ∃ lo, lo = F 0 := ⟨_, rfl⟩
      obtain ⟨hi', hhi⟩ : ∃ hi', hi' = F (k - 1) := ⟨_, rfl⟩
      rw [← hlo] at hlow
      rw [← hhi] at hhigh
      have HLO := hid hlo
      have HHI := hid hhi
      clear hlo hhi
      clear k1 k2 k3 k4 k5 r1 r2 r3 r4 rc c0 c1 c2 c4 c5 hg1 hg2 hg3 hg4 hrb hcb HC0 HC0' HC1 hl0 hl1
      go_wp2_with fail
      go_loopw [17] (fun i wr => ∃ t : Nat, t ≤ k ∧ i = .int .i64 t ∧ Kp [] w5 wr) (fun i _ => k - (intOf i).toNat)
      case atStart => exact ⟨0, by omega, rfl, Kp.refl _ _⟩
      case round =>
        obtain ⟨t, ht, rfl, hkr⟩ := hrel
        by_cases htl : t < k
        · by_cases hh : 2 * t < k
          · have hhI : (t : Int) < ((k : Int) + 1) / 2 := by omega
            have hsn : lo < n := by rw [HLO.out]; exact HFn.out _ (by omega)
            have hsw : lo * words + words ≤ len1 := by
              have : (lo + 1) * words ≤ n * words := Nat.mul_le_mul_right _ hsn
              rw [HNW.out, Nat.add_mul, Nat.one_mul] at this
              exact this
            have hb0 : (0 : Int) ≤ (lo : Int) * (words : Int) := by rw [← Int.natCast_mul]; omega
            have hb1 : (lo : Int) * (words : Int) + (words : Int) ≤ (len1 : Int) := by rw [← Int.natCast_mul]; omega
            have hct := hkr.cell' (R1.out.cell htl) (by simp)
            go_wp2_with (at_make; refine wpList_make_row _ rfl _ _ 23 rfl 30 i0 (.int .u64 0) 1 Tryf.underlying23 hi hz0 hz1 _ _ _ _ words rfl rfl rfl rfl (by rw [hz2]; omega) (by unfold maxLen; omega) (fun _ => .int .u64 0) (by rw [Nat.mul_one]; exact madeCells_one _ _) ?_; intro w6 r6 k6 s6; have hct6 := k6.cell' hct (by simp))
            rw [Nat.mul_one] at r6
            have hkk : Kp [] w5 w6 := hkr.trans k6 (by simp)
            refine (zzShow_calls rb g3 k k cb g4 len1 len1 n words wr.heap.size words t lo a3 a4 F _ (fun i => .int .u64 (s i)) w6 hF (hkk.cell' C.out.1 (by simp)) (hkk.cell' C.out.2.1 (by simp)) (hkk.cell' C.out.2.2.1 (by simp)) (hkk.cell' C.out.2.2.2.1 (by simp)) (hkk.cell' C.out.2.2.2.2 (by simp))
              (fun i h => hkk.cell' (R3.out.cell h) (by simp)) htl (by omega) HFs.out HFn.out (fun i h => hkk.cell' (crash0 RC.out h) (by simp)) (fun i h => hkk.cell' (crash1 RC.out h) (by simp)) (by omega) (by omega) (Nat.le_of_eq HNW.out) (Nat.le_refl _) (by omega)
              (fun i h => hkk.cell' (R4.out.cell h) (by simp)) (fun _ => rfl) r6 (by rw [HLO.out]; simp [hh])).mono ?_
            rintro e w7 ⟨rfl, r7, k7⟩
            have R7 := hid r7
            have hg2 : g2 < wr.heap.size := (R2.out.kp hkr (by simp)).lt
            have RS : Hid (Row w7 g2 30 len1 fun i => .int .u64 (s i)) := (R2.out.kp hkk (by simp)).kp k7 (by simp; omega)
            have HK7 : Hid (Kp [] w5 w7) := hkk.trans k7 (by have := hkr.size; simp; omega)
            clear r7 k7 hkk r6 k6 s6 hct hct6 hkr
            go_wp2_with fail
            go_loopw [20] (fun j wq => ∃ (u q2 : Nat), u ≤ words ∧ j = .int .i64 u ∧ wq = w7.drewN q2) (fun j _ => words - (intOf j).toNat)
            case atStart => exact ⟨0, 0, by omega, rfl, rfl⟩
            case round =>
              obtain ⟨u, q2, hu, rfl, rfl⟩ := hrel
              by_cases hul : u < words
              · have hcm := R7.out.cell hul
                have hcs := RS.out.cell (i := lo * words + u) (by omega)
                have hu1 : (lo : Int) * (words : Int) + (u : Int) < (len1 : Int) := by omega
                go_wp2
                go_quiet (fail)
                go_wp2
                go_roundw
                case rel => exact ⟨u + 1, _, by omega, by go_num, rfl⟩
                case measure => simp [intOf]; omega
              · go_wp2
                go_roundw
                case rel => exact ⟨t + 1, by omega, by go_num, HK7.out.drewN _⟩
                case measure => simp [intOf]; omega
          · have hhI : ¬ (t : Int) < ((k : Int) + 1) / 2 := by omega
            have hsn : hi' < n := by rw [HHI.out]; exact HFn.out _ (by omega)
            have hsw : hi' * words + words ≤ len1 := by
              have : (hi' + 1) * words ≤ n * words := Nat.mul_le_mul_right _ hsn
              rw [HNW.out, Nat.add_mul, Nat.one_mul] at this
              exact this
            have hb0 : (0 : Int) ≤ (hi' : Int) * (words : Int) := by rw [← Int.natCast_mul]; omega
            have hb1 : (hi' : Int) * (words : Int) + (words : Int) ≤ (len1 : Int) := by rw [← Int.natCast_mul]; omega
            have hct := hkr.cell' (R1.out.cell htl) (by simp)
            go_wp2_with (at_make; refine wpList_make_row _ rfl _ _ 23 rfl 30 i0 (.int .u64 0) 1 Tryf.underlying23 hi hz0 hz1 _ _ _ _ words rfl rfl rfl rfl (by rw [hz2]; omega) (by unfold maxLen; omega) (fun _ => .int .u64 0) (by rw [Nat.mul_one]; exact madeCells_one _ _) ?_; intro w6 r6 k6 s6; have hct6 := k6.cell' hct (by simp))
            rw [Nat.mul_one] at r6
            have hkk : Kp [] w5 w6 := hkr.trans k6 (by simp)
            refine (zzShow_calls rb g3 k k cb g4 len1 len1 n words wr.heap.size words t hi' a3 a4 F _ (fun i => .int .u64 (s i)) w6 hF (hkk.cell' C.out.1 (by simp)) (hkk.cell' C.out.2.1 (by simp)) (hkk.cell' C.out.2.2.1 (by simp)) (hkk.cell' C.out.2.2.2.1 (by simp)) (hkk.cell' C.out.2.2.2.2 (by simp))
              (fun i h => hkk.cell' (R3.out.cell h) (by simp)) htl (by omega) HFs.out HFn.out (fun i h => hkk.cell' (crash0 RC.out h) (by simp)) (fun i h => hkk.cell' (crash1 RC.out h) (by simp)) (by omega) (by omega) (Nat.le_of_eq HNW.out) (Nat.le_refl _) (by omega)
              (fun i h => hkk.cell' (R4.out.cell h) (by simp)) (fun _ => rfl) r6 (by rw [HHI.out]; simp [hh])).mono ?_
            rintro e w7 ⟨rfl, r7, k7⟩
            have R7 := hid r7
            have hg2 : g2 < wr.heap.size := (R2.out.kp hkr (by simp)).lt
            have RS : Hid (Row w7 g2 30 len1 fun i => .int .u64 (s i)) := (R2.out.kp hkk (by simp)).kp k7 (by simp; omega)
            have HK7 : Hid (Kp [] w5 w7) := hkk.trans k7 (by have := hkr.size; simp; omega)
            clear r7 k7 hkk r6 k6 s6 hct hct6 hkr
            go_wp2_with fail
            go_loopw [20] (fun j wq => ∃ (u q2 : Nat), u ≤ words ∧ j = .int .i64 u ∧ wq = w7.drewN q2) (fun j _ => words - (intOf j).toNat)
            case atStart => exact ⟨0, 0, by omega, rfl, rfl⟩
            case round =>
              obtain ⟨u, q2, hu, rfl, rfl⟩ := hrel
              by_cases hul : u < words
              · have hcm := R7.out.cell hul
                have hcs := RS.out.cell (i := hi' * words + u) (by omega)
                have hu1 : (hi' : Int) * (words : Int) + (u : Int) < (len1 : Int) := by omega
                go_wp2
                go_quiet (fail)
                go_wp2
                go_roundw
                case rel => exact ⟨u + 1, _, by omega, by go_num, rfl⟩
                case measure => simp [intOf]; omega
              · go_wp2
                go_roundw
                case rel => exact ⟨t + 1, by omega, by go_num, HK7.out.drewN _⟩
                case measure => simp [intOf]; omega
        · go_wp2
          go_ret
          exact ⟨rfl, (Hk.out.trans hkr (by simp)).below (Nat.le_refl _) (by simp)⟩

end Go.Proofs.Qxb6615056aFmt.fnShowEquivocationHalves

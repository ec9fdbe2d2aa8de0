/-
  THE CLONES, THE DOMAIN's TESTS, THE SMALL MAKERS, idsWhere, sameInts.
-/
import Derived.Test.Qxb6615056aDoorRows
import Derived.Test.Qxb6615056aDoorBase
import Derived.Test.Qxb6615056aDoorPlain
namespace Go.Proofs.Qxb6615056aDoor
open Go.RowKit Go.Tocsin

theorem Tryd.info3 : (Tryd.prog.info? 3).map (fun i => (i.zero, i.size, i.bytes)) = some (some (.int .i64 0), 1, 8) := by kernel_rfl

theorem Tryd.info5 : (Tryd.prog.info? 5).map (fun i => (i.zero, i.size, i.bytes)) = some (some (.int .u8 0), 1, 1) := by kernel_rfl

theorem Tryd.info4 : (Tryd.prog.info? 4).map (fun i => (i.zero, i.size, i.bytes)) = some (some (.bool false), 1, 1) := by kernel_rfl


set_option maxHeartbeats 800000 in
set_option maxRecDepth 100000 in
theorem cloneInts_some (b off len cap : Nat) (G : Nat → Value) (w : World) (hl : len ≤ 1048576) (h1 : ∀ i, (G i).oneCell' = true) (hc : ∀ i, i < len → w.cell? ⟨b, off + i, none⟩ = some (G i)) :
    Calls Tryd.prog 13 #[.slice (some ⟨b, off, none⟩) len cap] w fun e w' => ∃ g, e = .returned (.slice (some ⟨g, 0, none⟩) len len) ∧ w.heap.size ≤ g ∧ Row w' g 3 len G ∧ Kp [] w w' := by
  obtain ⟨i0, hi, hz0, hz1, hz2⟩ := info_parts Tryd.info3
  have hnil := fun w => Lib.run_eql_slice_nil (P := Tryd.prog) w 29 3 (some ⟨b, off, none⟩) len cap 0 0 Tryd.underlying29
  go_enter Tryd.func13, Tryd.ntmps13
  go_wp2_with (first
    | (at_make; refine wpList_make_row _ rfl _ _ 29 rfl 3 i0 (.int .i64 0) 1 Tryd.underlying29 hi hz0 hz1 _ _ _ _ len rfl rfl rfl rfl (by rw [hz2]; omega) (by unfold maxLen; omega) (fun _ => .int .i64 0) (by rw [Nat.mul_one]; exact madeCells_one _ _) ?_; intro w1 hr1 hk1 hs1)
    | (refine wpList_copy_row 3 Tryd.underlying29 (by kernel_rfl) w.heap.size len len b off cap rfl rfl _ G (by rw [Nat.mul_one] at hr1; exact hr1) (fun i h => hk1.cell' (hc i h) (by simp)) h1 ?_; intro w2 hr2 hk2 hs2))
  go_ret
  exact ⟨w.heap.size, rfl, Nat.le_refl _, hr2, hk1.trans hk2 (by simp)⟩


set_option maxHeartbeats 800000 in
set_option maxRecDepth 100000 in
theorem cloneU8_some (b off len cap : Nat) (G : Nat → Value) (w : World) (hl : len ≤ 1048576) (h1 : ∀ i, (G i).oneCell' = true) (hc : ∀ i, i < len → w.cell? ⟨b, off + i, none⟩ = some (G i)) :
    Calls Tryd.prog 6 #[.slice (some ⟨b, off, none⟩) len cap] w fun e w' => ∃ g, e = .returned (.slice (some ⟨g, 0, none⟩) len len) ∧ w.heap.size ≤ g ∧ Row w' g 5 len G ∧ Kp [] w w' := by
  obtain ⟨i0, hi, hz0, hz1, hz2⟩ := info_parts Tryd.info5
  have hnil := fun w => Lib.run_eql_slice_nil (P := Tryd.prog) w 22 5 (some ⟨b, off, none⟩) len cap 0 0 Tryd.underlying22
  go_enter Tryd.func6, Tryd.ntmps6
  go_wp2_with (first
    | (at_make; refine wpList_make_row _ rfl _ _ 22 rfl 5 i0 (.int .u8 0) 1 Tryd.underlying22 hi hz0 hz1 _ _ _ _ len rfl rfl rfl rfl (by rw [hz2]; omega) (by unfold maxLen; omega) (fun _ => .int .u8 0) (by rw [Nat.mul_one]; exact madeCells_one _ _) ?_; intro w1 hr1 hk1 hs1)
    | (refine wpList_copy_row 5 Tryd.underlying22 (by kernel_rfl) w.heap.size len len b off cap rfl rfl _ G (by rw [Nat.mul_one] at hr1; exact hr1) (fun i h => hk1.cell' (hc i h) (by simp)) h1 ?_; intro w2 hr2 hk2 hs2))
  go_ret
  exact ⟨w.heap.size, rfl, Nat.le_refl _, hr2, hk1.trans hk2 (by simp)⟩


set_option maxHeartbeats 800000 in
set_option maxRecDepth 100000 in
theorem cloneBools_some (b off len cap : Nat) (G : Nat → Value) (w : World) (hl : len ≤ 1048576) (h1 : ∀ i, (G i).oneCell' = true) (hc : ∀ i, i < len → w.cell? ⟨b, off + i, none⟩ = some (G i)) :
    Calls Tryd.prog 7 #[.slice (some ⟨b, off, none⟩) len cap] w fun e w' => ∃ g, e = .returned (.slice (some ⟨g, 0, none⟩) len len) ∧ w.heap.size ≤ g ∧ Row w' g 4 len G ∧ Kp [] w w' := by
  obtain ⟨i0, hi, hz0, hz1, hz2⟩ := info_parts Tryd.info4
  have hnil := fun w => Lib.run_eql_slice_nil (P := Tryd.prog) w 23 4 (some ⟨b, off, none⟩) len cap 0 0 Tryd.underlying23
  go_enter Tryd.func7, Tryd.ntmps7
  go_wp2_with (first
    | (at_make; refine wpList_make_row _ rfl _ _ 23 rfl 4 i0 (.bool false) 1 Tryd.underlying23 hi hz0 hz1 _ _ _ _ len rfl rfl rfl rfl (by rw [hz2]; omega) (by unfold maxLen; omega) (fun _ => .bool false) (by rw [Nat.mul_one]; exact madeCells_one _ _) ?_; intro w1 hr1 hk1 hs1)
    | (refine wpList_copy_row 4 Tryd.underlying23 (by kernel_rfl) w.heap.size len len b off cap rfl rfl _ G (by rw [Nat.mul_one] at hr1; exact hr1) (fun i h => hk1.cell' (hc i h) (by simp)) h1 ?_; intro w2 hr2 hk2 hs2))
  go_ret
  exact ⟨w.heap.size, rfl, Nat.le_refl _, hr2, hk1.trans hk2 (by simp)⟩


/-- How many of the first n are marked. -/
def cnt (fb : Nat → Bool) : Nat → Nat
  | 0 => 0
  | n + 1 => cnt fb n + if fb n then 1 else 0

theorem cnt_le (fb : Nat → Bool) (n : Nat) : cnt fb n ≤ n := by
  induction n with
  | zero => simp [cnt]
  | succ n ih => simp only [cnt]; split <;> omega


set_option maxHeartbeats 800000 in
set_option maxRecDepth 100000 in
theorem countTrue_calls (b off n cap : Nat) (fb : Nat → Bool) (w : World) (hn : n ≤ 1048576) (hc : ∀ i, i < n → w.cell? ⟨b, off + i, none⟩ = some (.bool (fb i))) :
    Calls Tryd.prog 18 #[.slice (some ⟨b, off, none⟩) n cap] w fun e w' => e = .returned (.int .i64 (cnt fb n : Nat)) ∧ w' = w := by
  have HC := hid hc
  clear hc
  go_enter Tryd.func18, Tryd.ntmps18
  go_wp2
  go_loop [3, 4] (fun c i => ∃ k : Nat, k ≤ n ∧ i = .int .i64 k ∧ c = .int .i64 (cnt fb k : Nat)) (fun _ i => n - (intOf i).toNat)
  case atStart => exact ⟨0, by omega, rfl, rfl⟩
  case round =>
    obtain ⟨k, hk, rfl, rfl⟩ := hrel
    have hle := cnt_le fb k
    by_cases hlt : k < n
    · have hck := HC.out k hlt
      have HS : Hid (cnt fb (k + 1) = cnt fb k + if fb k then 1 else 0) := rfl
      generalize cnt fb (k + 1) = c1 at *
      cases hb : fb k
      · rw [hb] at hck
        have HB := hid hb
        clear hb
        go_wp2
        go_round
        case rel => exact ⟨k + 1, by omega, by go_num, by show _ = Value.int .i64 ((cnt fb k + if fb k then 1 else 0 : Nat) : Int); rw [HB.out]; rfl⟩
        case measure => simp [intOf]; omega
      · rw [hb] at hck
        have HB := hid hb
        clear hb
        go_wp2
        go_round
        case rel => exact ⟨k + 1, by omega, by go_num, by show _ = Value.int .i64 ((cnt fb k + if fb k then 1 else 0 : Nat) : Int); rw [HB.out]; go_num⟩
        case measure => simp [intOf]; omega
    · obtain rfl : k = n := by omega
      go_wp2
      go_ret
      exact ⟨rfl, rfl⟩


set_option maxHeartbeats 1600000 in
set_option maxRecDepth 100000 in
theorem tableShape_none (a : Option Addr) (cap s n : Nat) (w : World) (hs : 1 ≤ s) (hn : 1 ≤ n) (hs2 : s ≤ 256) (hn2 : n ≤ 1048576) :
    Calls Tryd.prog 17 #[.int .i64 s, .int .i64 n, .slice a 0 cap] w fun e w' => e = .returned (.bool false) ∧ w' = w := by
  have hn' : ¬ n = 0 := by omega
  go_enter Tryd.func17, Tryd.ntmps17
  go_wp2
  go_loop [7, 8] (fun p i => p = .int .i64 1 ∧ i = .int .i64 0) (fun _ _ => 0)
  case atStart => exact ⟨rfl, rfl⟩
  case round =>
    obtain ⟨rfl, rfl⟩ := hrel
    have hlt : (0 : Int) < (n : Int) := by omega
    go_wp2
    go_ret
    exact ⟨rfl, rfl⟩


set_option maxHeartbeats 1600000 in
set_option maxRecDepth 100000 in
theorem tableShape_some (b off len cap s n : Nat) (nx : Nat → Nat) (w : World) (hs : 1 ≤ s) (hn : 1 ≤ n) (hs2 : s ≤ 256) (hn2 : n ≤ 1048576) (hl : len ≤ 1048576)
    (hb : ∀ i, nx i < 256) (hc : ∀ i, i < len → w.cell? ⟨b, off + i, none⟩ = some (.int .u8 (nx i : Nat))) :
    Calls Tryd.prog 17 #[.int .i64 s, .int .i64 n, .slice (some ⟨b, off, none⟩) len cap] w fun e w' => SaysB (s ^ n * n = len ∧ ∀ i, i < len → nx i < s) e ∧ w' = w := by
  have hn' : ¬ n = 0 := by omega
  have HC := hid hc
  have HB := hid hb
  clear hc hb
  by_cases hG : ((len : Int) % (n : Int) != 0) = true
  · go_enter Tryd.func17, Tryd.ntmps17
    go_wp2
    go_ret
    exact ⟨SaysB.no _, rfl⟩
  have hG' : ((len : Int) % (n : Int) != 0) = false := by simpa using hG
  have HM : Hid (len % n = 0) := by
    have : ((len % n : Nat) : Int) = 0 := by simpa using hG'
    show len % n = 0
    omega
  clear hG
  obtain ⟨d, hd⟩ : ∃ d, d = len / n := ⟨_, rfl⟩
  have hdI : (len : Int) / (n : Int) = (d : Int) := by rw [hd]; simp
  have hd2 : d ≤ 1048576 := by rw [hd]; exact Nat.le_trans (Nat.div_le_self _ _) hl
  have HD := hid hd
  clear hd
  go_enter Tryd.func17, Tryd.ntmps17
  go_wp2
  go_loop [7, 8] (fun p i => ∃ k q : Nat, k ≤ n ∧ i = .int .i64 k ∧ p = .int .i64 q ∧ Hid (q = s ^ k) ∧ q ≤ 268435456) (fun _ i => n - (intOf i).toNat)
  case atStart => exact ⟨0, 1, by omega, rfl, rfl, by simp [Hid], by omega⟩
  case round =>
    obtain ⟨k, q, hk, rfl, rfl, HQ, hq⟩ := hrel
    by_cases hlt : k < n
    · by_cases hpl : (len : Int) < (q : Int)
      · go_wp2
        go_ret
        exact ⟨SaysB.no _, rfl⟩
      · have hqs : q * s ≤ 1048576 * 256 := Nat.mul_le_mul (by omega) hs2
        have hb0 : (0 : Int) ≤ (q : Int) * (s : Int) := by rw [← Int.natCast_mul]; omega
        have hb1 : (q : Int) * (s : Int) ≤ 268435456 := by rw [← Int.natCast_mul]; omega
        go_wp2
        go_round
        case rel => exact ⟨k + 1, q * s, by omega, by go_num, by rw [Int.natCast_mul], by show q * s = s ^ (k + 1); rw [HQ.out, Nat.pow_succ], by omega⟩
        case measure => simp [intOf]; omega
    · obtain rfl : k = n := by omega
      by_cases hqd : ((q : Int) != (d : Int)) = true
      · go_wp2
        go_ret
        exact ⟨SaysB.no _, rfl⟩
      have hqd' : ((q : Int) != (d : Int)) = false := by simpa using hqd
      have HE : Hid (s ^ k * k = len) := by
        have : q = d := by
          have : (q : Int) = (d : Int) := by simpa using hqd'
          omega
        show s ^ k * k = len
        rw [← HQ.out, this, HD.out]
        exact Nat.div_mul_cancel (Nat.dvd_of_mod_eq_zero HM.out)
      clear hqd
      go_wp2
      go_loop [9] (fun i => ∃ j : Nat, j ≤ len ∧ i = .int .i64 j ∧ Hid (∀ t, t < j → nx t < s)) (fun i => len - (intOf i).toNat)
      case atStart => exact ⟨0, by omega, rfl, fun t h => by omega⟩
      case round =>
        obtain ⟨j, hj, rfl, HJ⟩ := hrel
        by_cases hjl : j < len
        · have hcj := HC.out j hjl
          have hbj := HB.out j
          by_cases hv : (s : Int) ≤ (nx j : Int)
          · go_wp2
            go_ret
            exact ⟨SaysB.no _, rfl⟩
          · go_wp2
            go_round
            case rel =>
              refine ⟨j + 1, by omega, by go_num, fun t h => ?_⟩
              by_cases e : t = j
              · subst e; omega
              · exact HJ.out t (by omega)
            case measure => simp [intOf]; omega
        · obtain rfl : j = len := by omega
          go_wp2
          go_ret
          exact ⟨SaysB.yes ⟨HE.out, HJ.out⟩, rfl⟩


/-- The cells of a slice, wherever it lies; a slice without an element may be nil. -/
def SlAt (w : World) (a : Option Addr) (n : Nat) (F : Nat → Value) : Prop :=
  0 < n → ∃ b off, a = some ⟨b, off, none⟩ ∧ ∀ i, i < n → w.cell? ⟨b, off + i, none⟩ = some (F i)


set_option maxHeartbeats 800000 in
set_option maxRecDepth 100000 in
theorem bitsFor_calls (s : Int) (w : World) : Calls Tryd.prog 11 #[.int .i64 s] w fun e w' => (∃ b : Int, e = .returned (.int .i64 b)) ∧ w' = w := by
  go_enter Tryd.func11, Tryd.ntmps11
  go_wp2
  go_loop [3] (fun b => ∃ k : Nat, k ≤ 62 ∧ b = .int .i64 k) (fun b => 62 - (intOf b).toNat)
  case atStart => exact ⟨0, by omega, rfl⟩
  case round =>
    obtain ⟨k, hk, rfl⟩ := hrel
    by_cases hlt : k < 62
    · go_wp2
      · go_round
        case rel => exact ⟨k + 1, by omega, by go_num⟩
        case measure => simp [intOf]; omega
      · go_ret
        exact ⟨⟨_, rfl⟩, rfl⟩
    · go_wp2
      go_ret
      exact ⟨⟨_, rfl⟩, rfl⟩


set_option maxHeartbeats 1600000 in
set_option maxRecDepth 100000 in
theorem weightsFor_calls (s n : Nat) (w : World) (hs : 1 ≤ s) (hn : n ≤ 1048576) (hb : s ^ n ≤ 1048576) :
    Calls Tryd.prog 10 #[.int .i64 s, .int .i64 n] w fun e w' => ∃ g, e = .returned (.slice (some ⟨g, 0, none⟩) n n) ∧ w.heap.size ≤ g ∧ Row w' g 3 n (fun v => .int .i64 (s ^ (n - 1 - v) : Nat)) ∧ Kp [] w w' := by
  obtain ⟨i0, hi, hz0, hz1, hz2⟩ := info_parts Tryd.info3
  have HB := hid hb
  clear hb
  go_enter Tryd.func10, Tryd.ntmps10
  go_wp2_with (at_make; refine wpList_make_row _ rfl _ _ 29 rfl 3 i0 (.int .i64 0) 1 Tryd.underlying29 hi hz0 hz1 _ _ _ _ n rfl rfl rfl rfl (by rw [hz2]; omega) (by unfold maxLen; omega) (fun _ => .int .i64 0) (by rw [Nat.mul_one]; exact madeCells_one _ _) ?_; intro w1 hr1 hk1 hs1)
  go_loopw [6, 7] (fun p i wr => ∃ k q : Nat, k ≤ n ∧ i = .int .i64 ((n : Int) - 1 - k) ∧ p = .int .i64 q ∧ Hid (q = s ^ k) ∧ Row wr w.heap.size 3 n (fun v => .int .i64 (if n - k ≤ v then (s ^ (n - 1 - v) : Nat) else 0)) ∧ Kp [] w wr) (fun _ i _ => (intOf i + 1).toNat)
  case atStart => exact ⟨0, 1, by omega, by simp, rfl, by simp [Hid], by rw [Nat.mul_one] at hr1; exact hr1.congr (fun i h => by rw [if_neg (by omega)]), hk1⟩
  case round =>
    obtain ⟨k, q, hk, rfl, rfl, HQ, hr, hkp⟩ := hrel
    by_cases hlt : k < n
    · have hq : q ≤ 1048576 := by rw [HQ.out]; exact Nat.le_trans (Nat.pow_le_pow_right hs (by omega)) HB.out
      have hqs : q * s ≤ 1048576 := by rw [HQ.out, ← Nat.pow_succ]; exact Nat.le_trans (Nat.pow_le_pow_right hs (by omega)) HB.out
      have hb0 : (0 : Int) ≤ (q : Int) * (s : Int) := by rw [← Int.natCast_mul]; omega
      have hb1 : (q : Int) * (s : Int) ≤ 1048576 := by rw [← Int.natCast_mul]; omega
      have hcell := hr.cell (i := n - 1 - k) (by omega)
      have hfz := hr.frozen (n - 1 - k)
      have HR := hid hr
      have HK := hid hkp
      clear hr hkp
      go_wp2
      go_roundw
      case rel =>
        refine ⟨k + 1, q * s, by omega, by go_num, by rw [Int.natCast_mul], by show q * s = s ^ (k + 1); rw [HQ.out, Nat.pow_succ], (HR.out.set _ _).congr (fun v hv => ?_), HK.out.setCell (.inr (Nat.le_refl _)) _⟩
        by_cases e : v = n - 1 - k
        · rw [if_pos e, if_pos (by omega), HQ.out, show n - 1 - v = k by omega]
        · rw [if_neg e]
          by_cases e2 : n - k ≤ v
          · rw [if_pos e2, if_pos (by omega)]
          · rw [if_neg e2, if_neg (by omega)]
      case measure => simp [intOf]; omega
    · obtain rfl : k = n := by omega
      have HR := hid hr
      have HK := hid hkp
      clear hr hkp
      go_wp2
      go_ret
      exact ⟨w.heap.size, rfl, Nat.le_refl _, HR.out.congr (fun v hv => by rw [if_pos (by omega)]), HK.out⟩


/-- A table in memory: block tb; its next states in block nb, its weights in block wb. -/
structure TableAt (w : World) (tb nb wb fl n s ln : Nat) (nx : Nat → Nat) : Prop where
  c0 : w.cell? ⟨tb, 0, none⟩ = some (.int .i64 n)
  c1 : w.cell? ⟨tb, 1, none⟩ = some (.int .i64 s)
  c2 : w.cell? ⟨tb, 2, none⟩ = some (.slice (some ⟨nb, 0, none⟩) ln ln)
  c3 : w.cell? ⟨tb, 3, none⟩ = some (.slice (some ⟨wb, 0, none⟩) n n)
  c4 : w.cell? ⟨tb, 4, none⟩ = some (.slice (some ⟨fl, 0, none⟩) 1 1)
  f0 : w.cell? ⟨fl, 0, none⟩ = some (.int .i64 0)
  f1 : w.cell? ⟨fl, 1, none⟩ = some (.int .i64 s)
  next : Row w nb 5 ln (fun i => .int .u8 (nx i : Nat))
  weights : Row w wb 3 n (fun v => .int .i64 (s ^ (n - 1 - v) : Nat))


theorem TableAt.kp {w w' : World} {tb nb wb fl n s ln : Nat} {nx : Nat → Nat} {S : List Nat} (h : TableAt w tb nb wb fl n s ln nx) (k : Kp S w w') (h1 : tb ∉ S) (h2 : nb ∉ S) (h3 : wb ∉ S) (h4 : fl ∉ S) : TableAt w' tb nb wb fl n s ln nx :=
  ⟨k.cell' h.c0 h1, k.cell' h.c1 h1, k.cell' h.c2 h1, k.cell' h.c3 h1, k.cell' h.c4 h1, k.cell' h.f0 h4, k.cell' h.f1 h4, h.next.kp k h2, h.weights.kp k h3⟩


set_option maxHeartbeats 1600000 in
set_option maxRecDepth 100000 in
theorem newTable_calls (n s ln nb wb : Nat) (nx : Nat → Nat) (bits : Int) (w : World) (hN : Row w nb 5 ln (fun i => .int .u8 (nx i : Nat))) (hW : Row w wb 3 n (fun v => .int .i64 (s ^ (n - 1 - v) : Nat))) :
    Calls Tryd.prog 9 #[.int .i64 n, .int .i64 s, .slice (some ⟨nb, 0, none⟩) ln ln, .slice (some ⟨wb, 0, none⟩) n n, .int .i64 bits] w fun e w' => ∃ tb fl, e = .returned (.pointer (some ⟨tb, 0, none⟩)) ∧ w.heap.size ≤ tb ∧ w.heap.size ≤ fl ∧ TableAt w' tb nb wb fl n s ln nx ∧ Kp [] w w' := by
  have HN := hid hN
  have HW := hid hW
  clear hN hW
  go_enter Tryd.func9, Tryd.ntmps9
  go_wp2
  go_ret
  refine ⟨w.heap.size + 1, w.heap.size, rfl, by omega, by omega, ⟨?_, ?_, ?_, ?_, ?_, ?_, ?_, (HN.out.alloc _).alloc _, (HW.out.alloc _).alloc _⟩, ((Kp.refl _ _).alloc _).alloc _⟩
  all_goals go_simp


set_option maxHeartbeats 1600000 in
set_option maxRecDepth 100000 in
theorem idsWhere_calls (b n cap : Nat) (fb : Nat → Bool) (want : Bool) (w : World) (hn : n ≤ 1048576) (hc : ∀ i, i < n → w.cell? ⟨b, i, none⟩ = some (.bool (fb i))) :
    Calls Tryd.prog 8 #[.slice (some ⟨b, 0, none⟩) n cap, .bool want] w fun e w' => ∃ a c, e = .returned (.slice a (cw fb want n) c) ∧ Own w' 3 (.slice a (cw fb want n) c) (cw fb want n) (fun i => .int .i64 (nth fb want n i : Nat)) ∧ (∀ k ∈ blks (.slice a (cw fb want n) c), w.heap.size ≤ k) ∧ Kp [] w w' := by
  obtain ⟨i0, hi, hz0, hz1, hz2⟩ := info_parts Tryd.info3
  have HC := hid hc
  clear hc
  go_enter Tryd.func8, Tryd.ntmps8
  go_wp2
  go_loopw [5, 6] (fun o i wr => ∃ (k : Nat) (a : Option Addr) (c : Nat), k ≤ n ∧ i = .int .i64 k ∧ o = .slice a (cw fb want k) c ∧ Own wr 3 (.slice a (cw fb want k) c) (cw fb want k) (fun i => .int .i64 (nth fb want n i : Nat)) ∧ (∀ j ∈ blks (.slice a (cw fb want k) c), w.heap.size ≤ j) ∧ Kp [] w wr) (fun _ i _ => n - (intOf i).toNat)
  case atStart => exact ⟨0, none, 0, by omega, rfl, rfl, Own.nil _ _ _, by simp [blks, Value.ownBlock], Kp.refl _ _⟩
  case round =>
    obtain ⟨k, a, c, hk, rfl, rfl, ho, hbk, hkp⟩ := hrel
    have HO := hid ho
    have HB := hid hbk
    have HK := hid hkp
    by_cases hlt : k < n
    · have hcb := hkp.cell' (HC.out k hlt) (by simp)
      have hcl := cw_le (fb := fb) (want := want) k
      clear ho hbk hkp
      by_cases hw : fb k = want
      · have hbe : (fb k == want) = true := by simpa using hw
        have HW := hid hw
        clear hw
        go_wp2_with (at_builtin; refine wpList_append_one rfl (.tmp 19) (.tmp 21) 29 rfl 3 i0 (.int .i64 0) 8 Tryd.underlying29 hi hz0 hz1 hz2 rfl (.slice a (cw fb want k) c) (cw fb want k) (fun i => .int .i64 (nth fb want n i : Nat)) rfl (HO.out.alloc _) wr.heap.size 1 rfl (by rw [nth_cw hlt HW.out]; exact World.cell?_alloc_at _ _ _ _ rfl) rfl (by unfold maxLen; omega) (by omega) ?_; intro v' w2 ho2 hk2 hb2; obtain ⟨a', c', rfl, _⟩ := ho2.elim; have HO2 := hid ho2; have HK2 := hid hk2; have HB2 := hid hb2; clear ho2 hk2 hb2)
        go_roundw
        case rel =>
          have e1 : cw fb want (k + 1) = cw fb want k + 1 := by simp [cw, HW.out]
          have e2 : ∀ j ∈ blks (.slice a' (cw fb want k + 1) c'), w.heap.size ≤ j := fun j hj => by
            rcases HB2.out j hj with h | h
            · exact HB.out j h
            · have := HK.out.size; simp at h; omega
          exact ⟨k + 1, a', c', by omega, by go_num, by rw [e1], by rw [e1]; exact HO2.out, by rw [e1]; exact e2, (HK.out.alloc _).trans HK2.out (fun i hi => .inr (HB.out i hi))⟩
        case measure => simp [intOf]; omega
      · have hbe : (fb k == want) = false := by simpa using hw
        have HW := hid hw
        clear hw
        go_wp2
        go_roundw
        case rel =>
          have e1 : cw fb want (k + 1) = cw fb want k := by simp [cw, HW.out]
          exact ⟨k + 1, a, c, by omega, by go_num, by rw [e1], by rw [e1]; exact HO.out, by rw [e1]; exact HB.out, HK.out⟩
        case measure => simp [intOf]; omega
    · obtain rfl : n = k := by omega
      clear ho hbk hkp
      go_wp2
      go_ret
      exact ⟨a, c, rfl, HO.out, HB.out, HK.out⟩


set_option maxHeartbeats 1600000 in
set_option maxRecDepth 100000 in
theorem sameInts_calls (b1 b2 n c1 c2 : Nat) (f : Nat → Int) (w : World) (hn : n ≤ 1048576) (h1 : ∀ i, i < n → w.cell? ⟨b1, i, none⟩ = some (.int .i64 (f i))) (h2 : ∀ i, i < n → w.cell? ⟨b2, i, none⟩ = some (.int .i64 (f i))) :
    Calls Tryd.prog 16 #[.slice (some ⟨b1, 0, none⟩) n c1, .slice (some ⟨b2, 0, none⟩) n c2] w fun e w' => e = .returned (.bool true) ∧ ∃ q, w' = w.drewN q := by
  have H1 := hid h1
  have H2 := hid h2
  clear h1 h2
  go_enter Tryd.func16, Tryd.ntmps16
  go_wp2
  go_loopw [5] (fun i wr => ∃ k q : Nat, k ≤ n ∧ i = .int .i64 k ∧ wr = w.drewN q) (fun i _ => n - (intOf i).toNat)
  case atStart => exact ⟨0, 0, by omega, rfl, rfl⟩
  case round =>
    obtain ⟨k, q, hk, rfl, rfl⟩ := hrel
    by_cases hlt : k < n
    · have c1 := H1.out k hlt
      have c2 := H2.out k hlt
      go_wp2
      go_quiet (fail)
      go_wp2
      go_roundw
      case rel => exact ⟨k + 1, _, by omega, by go_num, rfl⟩
      case measure => simp [intOf]; omega
    · go_wp2
      go_ret
      exact ⟨rfl, _, rfl⟩


end Go.Proofs.Qxb6615056aDoor

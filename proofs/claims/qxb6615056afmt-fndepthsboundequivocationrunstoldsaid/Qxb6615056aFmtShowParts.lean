/-
  THE WALKS OF THE SMALL CALLEES OF FnShowEquivocationHalves: zzBytes (7), slices.BinarySearch (56), EquivocationSource (42).
-/
import Derived.Test.Qxb6615056aFmtClones
namespace Go.Proofs.Qxb6615056aFmt
open Go.RowKit Go.Tocsin

set_option maxHeartbeats 800000 in
set_option maxRecDepth 100000 in
theorem zzBytes7 (a0 a1 : Option Addr) (l0 c0 l1 c1 : Nat) (x y z : Int) (w : World) (h0 : l0 ≤ maxLen) (h1 : l1 ≤ maxLen) :
    Calls Tryf.prog 7 #[.slice a0 l0 c0, .slice a1 l1 c1, .int .i64 x, .int .i64 y, .int .i64 z] w fun e w' => e = .returned (.bool (decide (l0 + l1 ≤ 1048576))) ∧ w' = w := by
  unfold maxLen at h0 h1
  by_cases g0 : (1048576 : Int) < (l0 : Int)
  · rw [decide_eq_false (show ¬ l0 + l1 ≤ 1048576 by omega)]
    go_enter Tryf.func7, Tryf.ntmps7
    go_wp2
    go_ret
    exact ⟨rfl, rfl⟩
  by_cases g1 : (1048576 : Int) < (l1 : Int)
  · rw [decide_eq_false (show ¬ l0 + l1 ≤ 1048576 by omega)]
    go_enter Tryf.func7, Tryf.ntmps7
    go_wp2
    go_ret
    exact ⟨rfl, rfl⟩
  by_cases g2 : (1048576 : Int) < (l0 : Int) + (l1 : Int)
  · rw [decide_eq_false (show ¬ l0 + l1 ≤ 1048576 by omega)]
    go_enter Tryf.func7, Tryf.ntmps7
    go_wp2
    go_ret
    exact ⟨rfl, rfl⟩
  · rw [decide_eq_true (show l0 + l1 ≤ 1048576 by omega)]
    go_enter Tryf.func7, Tryf.ntmps7
    go_wp2
    go_ret
    exact ⟨rfl, rfl⟩

set_option maxHeartbeats 1600000 in
set_option maxRecDepth 100000 in
/-- slices.BinarySearch at an element that is there, in a row that rises. -/
theorem binSearch (b off n cap : Nat) (f : Nat → Int) (r : Nat) (w : World) (hr : r < n) (hn : n ≤ 1048576) (hc : ∀ i, i < n → w.cell? ⟨b, off + i, none⟩ = some (.int .i64 (f i)))
    (hs : ∀ i j, i < j → j < n → f i < f j) :
    Calls Tryf.prog 56 #[.slice (some ⟨b, off, none⟩) n cap, .int .i64 (f r)] w fun e w' => e = .returned (.tuple #[.int .i64 r, .bool true]) ∧ w' = w := by
  have HS := show Hid (∀ i j, i < j → j < n → f i < f j) from hs
  have HC := show Hid (∀ i, i < n → w.cell? ⟨b, off + i, none⟩ = some (.int .i64 (f i))) from hc
  clear hs hc
  obtain ⟨t, ht⟩ : ∃ t, t = f r := ⟨_, rfl⟩
  have HT := show Hid (t = f r) from ht
  rw [← ht]
  clear ht
  go_enter Tryf.func56, Tryf.ntmps56
  go_wp2
  go_loop [7, 8] (fun i j => ∃ lo hi : Nat, lo ≤ r ∧ r ≤ hi ∧ hi ≤ n ∧ lo ≤ hi ∧ i = .int .i64 lo ∧ j = .int .i64 hi) (fun i j => (intOf j).toNat - (intOf i).toNat)
  case atStart => exact ⟨0, n, by omega, by omega, by omega, by omega, rfl, rfl⟩
  case round =>
    obtain ⟨lo, hi, h1, h2, h3, h4, rfl, rfl⟩ := hrel
    by_cases hlt : lo < hi
    · have hm := HC.out ((lo + hi) / 2) (by omega)
      by_cases hv : f ((lo + hi) / 2) < t
      · have hmr : (lo + hi) / 2 < r := by
          rw [HT.out] at hv
          rcases Nat.lt_trichotomy ((lo + hi) / 2) r with h | h | h
          · exact h
          · rw [h] at hv; omega
          · have := HS.out _ _ h (by omega); omega
        go_wp2
        go_round
        case rel => exact ⟨(lo + hi) / 2 + 1, hi, by omega, by omega, by omega, by omega, by go_num, by go_num⟩
        case measure => simp [intOf]; omega
      · have hmr : r ≤ (lo + hi) / 2 := by
          rw [HT.out] at hv
          rcases Nat.lt_or_ge ((lo + hi) / 2) r with h | h
          · have := HS.out _ _ h hr; omega
          · exact h
        go_wp2
        go_round
        case rel => exact ⟨lo, (lo + hi) / 2, by omega, by omega, by omega, by omega, by go_num, by go_num⟩
        case measure => simp [intOf]; omega
    · obtain rfl : lo = r := by omega
      have hm := HC.out lo (by omega)
      have he : (f lo == t) = true := by rw [HT.out]; simp
      go_wp2
      go_ret2
      exact ⟨rfl, rfl⟩

set_option maxHeartbeats 1600000 in
set_option maxRecDepth 100000 in
theorem equivSource (b off n cap : Nat) (f : Nat → Int) (r : Nat) (w : World) (hr : r < n) (hn : n ≤ 1048576) (hc : ∀ i, i < n → w.cell? ⟨b, off + i, none⟩ = some (.int .i64 (f i)))
    (hs : ∀ i j, i < j → j < n → f i < f j) :
    Calls Tryf.prog 42 #[.slice (some ⟨b, off, none⟩) n cap, .int .i64 (f r)] w fun e w' => e = .returned (.int .i64 (if 2 * r < n then f 0 else f (n - 1))) ∧ w' = w := by
  have h0 : w.cell? ⟨b, off, none⟩ = some (.int .i64 (f 0)) := hc 0 (by omega)
  have h1 := hc (n - 1) (by omega)
  have HB := show Hid (Calls Tryf.prog 56 #[.slice (some ⟨b, off, none⟩) n cap, .int .i64 (f r)] w fun e w' => e = .returned (.tuple #[.int .i64 r, .bool true]) ∧ w' = w) from binSearch b off n cap f r w hr hn hc hs
  clear hc hs
  by_cases hd : 2 * r < n
  · rw [if_pos hd]
    go_enter Tryf.func42, Tryf.ntmps42
    go_wp2_with (go_at_call 56; refine HB.out.mono ?_; rintro e w' ⟨rfl, rfl⟩)
    go_ret
    exact ⟨rfl, rfl⟩
  · rw [if_neg hd]
    go_enter Tryf.func42, Tryf.ntmps42
    go_wp2_with (go_at_call 56; refine HB.out.mono ?_; rintro e w' ⟨rfl, rfl⟩)
    go_ret
    exact ⟨rfl, rfl⟩

end Go.Proofs.Qxb6615056aFmt

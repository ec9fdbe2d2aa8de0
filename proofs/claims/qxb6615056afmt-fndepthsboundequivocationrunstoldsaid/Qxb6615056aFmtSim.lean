/-
  THE TABLE AND THE SIMULATION IN MEMORY: ZZnewTable (16), checkFaulty (45), NewSimulation (38).
-/
import Derived.Test.Qxb6615056aFmtSimParts
import Derived.Test.Qxb6615056aFmtRound
import Derived.Test.Qxb6615056aFmtPlain
import Derived.Test.Qxb6615056aFmtShelf
namespace Go.Proofs.Qxb6615056aFmt
open Go.RowKit Go.Tocsin

/-- A table in memory: block tb; its next states in block nb, its weights in block wb. -/
structure TableAt (w : World) (tb nb wb fl n s ln : Nat) (nx : Nat → Nat) : Prop where
  c0 : w.cell? ⟨tb, 0, none⟩ = some (.int .i64 n)
  c1 : w.cell? ⟨tb, 1, none⟩ = some (.int .i64 s)
  c2 : w.cell? ⟨tb, 2, none⟩ = some (.slice (some ⟨nb, 0, none⟩) ln ln)
  c3 : w.cell? ⟨tb, 3, none⟩ = some (.slice (some ⟨wb, 0, none⟩) n n)
  c4 : w.cell? ⟨tb, 4, none⟩ = some (.slice (some ⟨fl, 0, none⟩) 1 1)
  f0 : w.cell? ⟨fl, 0, none⟩ = some (.int .i64 0)
  f1 : w.cell? ⟨fl, 1, none⟩ = some (.int .i64 s)
  next : Row w nb 5 ln (fun i => .int .u8 (nx i : Nat))
  weights : Row w wb 3 n (fun v => .int .i64 (s ^ (n - 1 - v) : Nat))

theorem TableAt.kp {w w' : World} {tb nb wb fl n s ln : Nat} {nx : Nat → Nat} {S : List Nat} (h : TableAt w tb nb wb fl n s ln nx) (k : Kp S w w') (h1 : tb ∉ S) (h2 : nb ∉ S) (h3 : wb ∉ S) (h4 : fl ∉ S) : TableAt w' tb nb wb fl n s ln nx :=
  ⟨k.cell' h.c0 h1, k.cell' h.c1 h1, k.cell' h.c2 h1, k.cell' h.c3 h1, k.cell' h.c4 h1, k.cell' h.f0 h4, k.cell' h.f1 h4, h.next.kp k h2, h.weights.kp k h3⟩

set_option maxHeartbeats 1600000 in
set_option maxRecDepth 100000 in
theorem newTable_calls (n s ln nb wb : Nat) (nx : Nat → Nat) (bits : Int) (w : World) (hN : Row w nb 5 ln (fun i => .int .u8 (nx i : Nat))) (hW : Row w wb 3 n (fun v => .int .i64 (s ^ (n - 1 - v) : Nat))) :
    Calls Tryf.prog 16 #[.int .i64 n, .int .i64 s, .slice (some ⟨nb, 0, none⟩) ln ln, .slice (some ⟨wb, 0, none⟩) n n, .int .i64 bits] w fun e w' => ∃ tb fl, e = .returned (.pointer (some ⟨tb, 0, none⟩)) ∧ w.heap.size ≤ tb ∧ w.heap.size ≤ fl ∧ TableAt w' tb nb wb fl n s ln nx ∧ Kp [] w w' := by
  have HN := hid hN
  have HW := hid hW
  clear hN hW
  go_enter Tryf.func16, Tryf.ntmps16
  go_wp2
  go_ret
  refine ⟨w.heap.size + 1, w.heap.size, rfl, by omega, by omega, ⟨?_, ?_, ?_, ?_, ?_, ?_, ?_, (HN.out.alloc _).alloc _, (HW.out.alloc _).alloc _⟩, ((Kp.refl _ _).alloc _).alloc _⟩
  all_goals go_simp

set_option maxHeartbeats 1600000 in
set_option maxRecDepth 100000 in
theorem checkFaulty_calls (b n cap : Nat) (fb : Nat → Bool) (w : World) (hn : n ≤ 1048576) (h1 : 1 ≤ n) (hc : ∀ i, i < n → w.cell? ⟨b, i, none⟩ = some (.bool (fb i))) (hf : cnt fb n ≤ (n - 1) / 3) :
    Calls Tryf.prog 45 #[.int .i64 n, .slice (some ⟨b, 0, none⟩) n cap] w fun e w' => e = .returned .nilIface ∧ w' = w := by
  have HC := hid hc
  clear hc
  go_enter Tryf.func45, Tryf.ntmps45
  go_wp2
  go_loop [5, 10] (fun c i => ∃ k : Nat, k ≤ n ∧ i = .int .i64 k ∧ c = .int .i64 (cnt fb k : Nat)) (fun _ i => n - (intOf i).toNat)
  case atStart => exact ⟨0, by omega, rfl, rfl⟩
  case round =>
    obtain ⟨k, hk, rfl, rfl⟩ := hrel
    have hle := cnt_le fb k
    by_cases hlt : k < n
    · have hck := HC.out k hlt
      cases hb : fb k
      · rw [hb] at hck
        have HB := hid hb
        clear hb
        go_wp2
        go_round
        case rel => exact ⟨k + 1, by omega, by go_num, by show _ = Value.int .i64 ((cnt fb k + if fb k then 1 else 0 : Nat) : Int); rw [HB.out]; rfl⟩
        case measure => simp [intOf]; omega
      · rw [hb] at hck
        have HB := hid hb
        clear hb
        go_wp2
        go_round
        case rel => exact ⟨k + 1, by omega, by go_num, by show _ = Value.int .i64 ((cnt fb k + if fb k then 1 else 0 : Nat) : Int); rw [HB.out]; go_num⟩
        case measure => simp [intOf]; omega
    · obtain rfl : k = n := by omega
      have hfI : ¬ ((k : Int) - 1) / 3 < (cnt fb k : Int) := by omega
      go_wp2
      go_ret
      exact ⟨rfl, rfl⟩

theorem bitLen_pow : ∀ n : Fin 256, n.val < 2 ^ Lib.bitLen n.val ∧ Lib.bitLen n.val ≤ 8 := by decide +kernel

set_option maxHeartbeats 1600000 in
set_option maxRecDepth 100000 in
theorem mask_calls (s : Nat) (w : World) (h1 : 1 ≤ s) (h2 : s ≤ 256) :
    Calls Tryf.prog 49 #[.agg #[.int .i64 0, .int .i64 s]] w fun e w' => e = .returned (.int .u64 (2 ^ Lib.bitLen (s - 1) - 1 : Nat)) ∧ w' = w.alloc (.cells #[.int .i64 0, .int .i64 s] 72) := by
  have hb := bitLen_pow ⟨s - 1, by omega⟩
  obtain ⟨L, hL⟩ : ∃ L, L = Lib.bitLen (s - 1) := ⟨_, rfl⟩
  simp only at hb
  rw [← hL] at hb
  have HL := hid hL
  have hL8 := hb.2
  have hp : 1 ≤ 2 ^ L := Nat.one_le_two_pow
  have hp2 : 2 ^ L ≤ 256 := Nat.le_trans (Nat.pow_le_pow_right (by omega) hL8) (by decide)
  have HE : Hid (∀ w', Calls Tryf.prog 67 #[.int .u64 ((s : Int) - 1)] w' fun e w'' => e = .returned (.int .i64 (L : Nat)) ∧ w'' = w') := by
    intro w'
    have := Tryf.bits_Len ((s : Int) - 1) w' (by omega) (by omega)
    rw [show ((s : Int) - 1).toNat = s - 1 by omega, ← hL] at this
    exact this
  rw [← hL]
  clear hL hb
  go_enter Tryf.func49, Tryf.ntmps49
  go_wp2_with (first | (go_at_call 67; refine (HE.out _).mono ?_; rintro e w1 ⟨rfl, rfl⟩) | go_in)
  go_ret
  refine ⟨?_, rfl⟩
  have e1 : ((2 : Int) ^ L) = ((2 ^ L : Nat) : Int) := by simp
  have e2 : IntKind.u64.wrap (IntKind.u64.wrap ((2 : Int) ^ L) - 1) = ((2 ^ L - 1 : Nat) : Int) := by
    rw [e1]
    generalize 2 ^ L = q at *
    rw [IntKind.wrap_u64, IntKind.wrap_u64]
    omega
  show Ending.returned (.int .u64 (IntKind.u64.wrap (IntKind.u64.wrap ((2 : Int) ^ L) - 1))) = _
  rw [e2]

end Go.Proofs.Qxb6615056aFmt

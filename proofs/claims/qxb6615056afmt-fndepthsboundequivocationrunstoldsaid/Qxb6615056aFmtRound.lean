/-
  THE WALKS AROUND *Round: message (55), Sent (41), Show (35), newRound (34).
-/
import Derived.Test.Qxb6615056aFmtShowParts
namespace Go.Proofs.Qxb6615056aFmt
open Go.RowKit Go.Tocsin

set_option maxHeartbeats 1600000 in
set_option maxRecDepth 100000 in
theorem message_calls (rb ro cb sb so slen scap n words sender : Nat) (num recv : Int) (w : World) (hnum : 1 ≤ num)
    (c0 : w.cell? ⟨rb, ro, none⟩ = some (.int .i64 num)) (c2 : w.cell? ⟨rb, ro + 2, none⟩ = some (.int .i64 words)) (c5 : w.cell? ⟨rb, ro + 5, none⟩ = some (.slice (some ⟨cb, 0, none⟩) n n))
    (d0 : w.cell? ⟨cb, sender * 2, none⟩ = some (.int .i64 0)) (d1 : w.cell? ⟨cb, sender * 2 + 1, none⟩ = some (.slice none 0 0)) (hs : sender < n) (hn : n ≤ 1048576)
    (hw : 1 ≤ words) (hp : sender * words + words ≤ slen) (hl : slen ≤ scap) (hsl : slen ≤ 1048576) :
    Calls Tryf.prog 55 #[.pointer (some ⟨rb, ro, none⟩), .slice (some ⟨sb, so, none⟩) slen scap, .int .i64 sender, .int .i64 recv] w fun e w' => e = .returned (.slice (some ⟨sb, so + sender * words, none⟩) words (scap - sender * words)) ∧ Kp [] w w' := by
  have hg : ((0 : Int) == num) = false := by simp; omega
  have hrb : rb < w.heap.size := World.block_lt_of_cell? w _ c0
  have hm0 : (0 : Int) ≤ (sender : Int) * (words : Int) := by rw [← Int.natCast_mul]; omega
  have hm1 : (sender : Int) * (words : Int) ≤ 1048576 := by rw [← Int.natCast_mul]; omega
  have hm2 : ((sender : Int) + 1) * (words : Int) = (sender : Int) * (words : Int) + (words : Int) := by rw [Int.add_mul, Int.one_mul]
  go_enter Tryf.func55, Tryf.ntmps55
  go_wp2
  go_quiet (fail)
  go_wp2
  go_quiet (fail)
  go_wp2
  go_ret
  refine ⟨?_, ((((Kp.refl _ _).alloc _).drewN _).drewN _)⟩
  show Ending.returned (.slice _ (sender * words + words - sender * words) _) = _
  rw [Nat.add_sub_cancel_left]

set_option maxHeartbeats 1600000 in
set_option maxRecDepth 100000 in
theorem sent_calls (rb ro cb sb slen scap n words sender mb mcap : Nat) (num recv : Int) (M S : Nat → Value) (w : World) (hnum : 1 ≤ num)
    (c0 : w.cell? ⟨rb, ro, none⟩ = some (.int .i64 num)) (c2 : w.cell? ⟨rb, ro + 2, none⟩ = some (.int .i64 words)) (c4 : w.cell? ⟨rb, ro + 4, none⟩ = some (.slice (some ⟨sb, 0, none⟩) slen scap)) (c5 : w.cell? ⟨rb, ro + 5, none⟩ = some (.slice (some ⟨cb, 0, none⟩) n n))
    (d0 : w.cell? ⟨cb, sender * 2, none⟩ = some (.int .i64 0)) (d1 : w.cell? ⟨cb, sender * 2 + 1, none⟩ = some (.slice none 0 0)) (hs : sender < n) (hn : n ≤ 1048576)
    (hw : 1 ≤ words) (hp : sender * words + words ≤ slen) (hl : slen ≤ scap) (hsl : slen ≤ 1048576)
    (hS : ∀ i, i < slen → w.cell? ⟨sb, i, none⟩ = some (S i)) (h1 : ∀ i, (S i).oneCell' = true) (hM : Row w mb 30 words M) :
    Calls Tryf.prog 41 #[.pointer (some ⟨rb, ro, none⟩), .int .i64 sender, .int .i64 recv, .slice (some ⟨mb, 0, none⟩) words mcap] w fun e w' => e = .returned (.tuple #[]) ∧ Row w' mb 30 words (fun k => S (sender * words + k)) ∧ Kp [mb] w w' := by
  have HM := hid (message_calls rb ro cb sb 0 slen scap n words sender num recv w hnum c0 c2 c5 d0 d1 hs hn hw hp hl hsl)
  go_enter Tryf.func41, Tryf.ntmps41
  go_wp2_with (first
    | (go_at_call 55; refine HM.out.mono ?_; rintro e w1 ⟨rfl, hk1⟩)
    | (refine wpList_copy_row 30 Tryf.underlying74 (by kernel_rfl) mb words mcap sb (sender * words) _ rfl rfl _ (fun k => S (sender * words + k)) (hM.kp hk1 (by simp)) (fun i h => by exact hk1.cell' (hS (sender * words + i) (by omega)) (by simp)) (fun _ => h1 _) ?_; intro w2 hr2 hk2 hs2))
  go_end0
  exact ⟨rfl, hr2, (hk1.weaken (by simp)).trans hk2 (by simp)⟩

set_option maxHeartbeats 1600000 in
set_option maxRecDepth 100000 in
theorem show_calls (rb ro kb kn kcap cb sb slen scap n words mb mcap r src : Nat) (num snd : Int) (f : Nat → Nat) (M S : Nat → Value) (w : World) (hnum : 1 ≤ num)
    (c0 : w.cell? ⟨rb, ro, none⟩ = some (.int .i64 num)) (c1 : w.cell? ⟨rb, ro + 1, none⟩ = some (.slice (some ⟨kb, 0, none⟩) kn kcap)) (c2 : w.cell? ⟨rb, ro + 2, none⟩ = some (.int .i64 words)) (c4 : w.cell? ⟨rb, ro + 4, none⟩ = some (.slice (some ⟨sb, 0, none⟩) slen scap)) (c5 : w.cell? ⟨rb, ro + 5, none⟩ = some (.slice (some ⟨cb, 0, none⟩) n n))
    (hK : ∀ i, i < kn → w.cell? ⟨kb, i, none⟩ = some (.int .i64 (f i : Nat))) (hr : r < kn) (hkn : kn ≤ 1048576) (hf : ∀ i j, i < j → j < kn → f i < f j) (hfn : ∀ i, i < kn → f i < n)
    (d0 : ∀ i, i < n → w.cell? ⟨cb, i * 2, none⟩ = some (.int .i64 0)) (d1 : ∀ i, i < n → w.cell? ⟨cb, i * 2 + 1, none⟩ = some (.slice none 0 0)) (hn : n ≤ 1048576)
    (hw : 1 ≤ words) (hp : n * words ≤ slen) (hl : slen ≤ scap) (hsl : slen ≤ 1048576)
    (hS : ∀ i, i < slen → w.cell? ⟨sb, i, none⟩ = some (S i)) (h1 : ∀ i, (S i).oneCell' = true) (hM : Row w mb 30 words M) (hsrc : src = if 2 * r < kn then f 0 else f (kn - 1)) :
    Calls Tryf.prog 35 #[.agg #[], .pointer (some ⟨rb, ro, none⟩), .int .i64 snd, .int .i64 (f r : Nat), .slice (some ⟨mb, 0, none⟩) words mcap] w fun e w' => e = .returned (.tuple #[]) ∧ Row w' mb 30 words (fun k => S (src * words + k)) ∧ Kp [mb] w w' := by
  have hsn : src < n := by rw [hsrc]; split; exact hfn _ (by omega); exact hfn _ (by omega)
  have hsw : src * words + words ≤ slen := by
    have : (src + 1) * words ≤ n * words := Nat.mul_le_mul_right _ hsn
    rw [Nat.add_mul, Nat.one_mul] at this
    omega
  have hcast : (if 2 * r < kn then ((f 0 : Nat) : Int) else ((f (kn - 1) : Nat) : Int)) = (src : Int) := by rw [hsrc]; split <;> rfl
  have HE : Hid (∀ w', Kp [] w w' → Calls Tryf.prog 42 #[.slice (some ⟨kb, 0, none⟩) kn kcap, .int .i64 (f r : Nat)] w' fun e w'' => e = .returned (.int .i64 (src : Nat)) ∧ w'' = w') := by
    intro w' hk
    have := equivSource kb 0 kn kcap (fun i => (f i : Nat)) r w' hr hkn (fun i h => by rw [Nat.zero_add]; exact hk.cell' (hK i h) (by simp)) (fun i j h h' => by have := hf i j h h'; show ((f i : Nat) : Int) < ((f j : Nat) : Int); omega)
    rw [hcast] at this
    exact this
  have HS : Hid (∀ w', Kp [] w w' → Calls Tryf.prog 41 #[.pointer (some ⟨rb, ro, none⟩), .int .i64 src, .int .i64 (f r : Nat), .slice (some ⟨mb, 0, none⟩) words mcap] w' fun e w'' => e = .returned (.tuple #[]) ∧ Row w'' mb 30 words (fun k => S (src * words + k)) ∧ Kp [mb] w' w'') := fun w' hk =>
    sent_calls rb ro cb sb slen scap n words src mb mcap num _ M S w' hnum (hk.cell' c0 (by simp)) (hk.cell' c2 (by simp)) (hk.cell' c4 (by simp)) (hk.cell' c5 (by simp)) (hk.cell' (d0 src hsn) (by simp)) (hk.cell' (d1 src hsn) (by simp)) hsn hn hw hsw hl hsl
      (fun i h => hk.cell' (hS i h) (by simp)) h1 (hM.kp hk (by simp))
  have hrb : rb < w.heap.size := World.block_lt_of_cell? w _ c0
  clear hcast hsrc hS hM hK d0 d1 hf hfn c2 c4 c5
  go_enter Tryf.func35, Tryf.ntmps35
  go_wp2_with (first
    | (go_at_call 42; refine (HE.out _ ((Kp.refl _ _).alloc _)).mono ?_; rintro e w1 ⟨rfl, rfl⟩)
    | (go_at_call 41; refine (HS.out _ ((Kp.refl _ _).alloc _)).mono ?_; rintro e w2 ⟨rfl, hr2, hk2⟩))
  go_end0
  exact ⟨rfl, hr2, ((Kp.refl _ _).alloc _).trans hk2 (by simp)⟩

theorem Tryf.info94 : (Tryf.prog.info? 94).map (fun i => (i.zero, i.size, i.bytes)) = some (some (.pointer none), 1, 8) := by kernel_rfl
theorem Tryf.info118 : (Tryf.prog.info? 118).map (fun i => (i.zero, i.size, i.bytes)) = some (some (.agg #[.int .i64 0, .slice none 0 0]), 2, 32) := by kernel_rfl

def crashF (j : Nat) : Value := if j % 2 = 0 then .int .i64 0 else .slice none 0 0

theorem crash0 {w : World} {cb n : Nat} (h : Row w cb 118 (n * 2) crashF) {i : Nat} (hi : i < n) : w.cell? ⟨cb, i * 2, none⟩ = some (.int .i64 0) := by
  rw [h.cell (by omega)]; simp [crashF]
theorem crash1 {w : World} {cb n : Nat} (h : Row w cb 118 (n * 2) crashF) {i : Nat} (hi : i < n) : w.cell? ⟨cb, i * 2 + 1, none⟩ = some (.slice none 0 0) := by
  rw [h.cell (by omega)]
  have : (i * 2 + 1) % 2 = 1 := by omega
  simp [crashF, this]

set_option maxHeartbeats 3200000 in
set_option maxRecDepth 100000 in
theorem newRound_calls (n words slen : Nat) (ca : Option Addr) (cl cc : Nat) (w : World) (hn : n ≤ 1048576) (hsl : slen ≤ 1048576) (hs : slen = n * words) :
    Calls Tryf.prog 34 #[.int .i64 n, .int .i64 words, .slice ca cl cc] w fun e w' => ∃ mb sb cb, e = .returned (.agg #[.int .i64 0, .slice ca cl cc, .int .i64 words, .slice (some ⟨mb, 0, none⟩) n n, .slice (some ⟨sb, 0, none⟩) slen slen, .slice (some ⟨cb, 0, none⟩) n n, .slice none 0 0]) ∧
      w.heap.size ≤ mb ∧ w.heap.size ≤ sb ∧ w.heap.size ≤ cb ∧ mb ≠ sb ∧ mb ≠ cb ∧ sb ≠ cb ∧ Row w' mb 94 n (fun _ => .pointer none) ∧ Row w' sb 30 slen (fun _ => .int .u64 0) ∧ Row w' cb 118 (n * 2) crashF ∧ Kp [] w w' := by
  have HS := hid hs
  have hb0 : (0 : Int) ≤ (n : Int) * (words : Int) := by rw [← Int.natCast_mul]; omega
  have hb1 : (n : Int) * (words : Int) ≤ 1048576 := by rw [← Int.natCast_mul]; omega
  obtain ⟨i1, a1, a2, a3, a4⟩ := info_parts Tryf.info94
  obtain ⟨i2, b1, b2, b3, b4⟩ := info_parts Tryf.info30
  obtain ⟨i3, c1, c2, c3, c4⟩ := info_parts Tryf.info118
  obtain ⟨Z1, HZ1, r1⟩ := make_run (P := Tryf.prog) 61 94 i1 _ 1 Tryf.underlying61 a1 a2 a3 (n : Int) n rfl (by rw [a4]; omega) (by unfold maxLen; omega) (fun _ => .pointer none) (by rw [Nat.mul_one]; exact madeCells_one _ _)
  obtain ⟨Z2, HZ2, r2⟩ := make_run (P := Tryf.prog) 23 30 i2 _ 1 Tryf.underlying23 b1 b2 b3 ((n : Int) * (words : Int)) slen (by rw [hs, Int.natCast_mul]) (by rw [b4]; omega) (by unfold maxLen; omega) (fun _ => .int .u64 0) (by rw [Nat.mul_one]; exact madeCells_one _ _)
  obtain ⟨Z3, HZ3, r3⟩ := make_run (P := Tryf.prog) 62 118 i3 _ 2 Tryf.underlying62 c1 c2 c3 (n : Int) n rfl (by rw [c4]; omega) (by unfold maxLen; omega) crashF (madeCells_two _ _ _)
  clear hs a1 a2 a3 a4 b1 b2 b3 b4 c1 c2 c3 c4
  go_enter Tryf.func34, Tryf.ntmps34
  go_wp2
  go_region
  all_goals go_wp2
  all_goals rw [Nat.mul_one] at HZ1 HZ2
  · exact bodyPost_ret (v := .agg #[.int .i64 0, .slice ca cl cc, .int .i64 words, .slice (some ⟨w.heap.size + 1, 0, none⟩) n n, .slice (some ⟨w.heap.size + 1 + 1, 0, none⟩) slen slen, .slice (some ⟨w.heap.size + 1 + 1 + 1, 0, none⟩) n n, .slice none 0 0]) (by simp [results, Tryf.results34, go_sem]) rfl
      ⟨w.heap.size + 1, w.heap.size + 1 + 1, w.heap.size + 1 + 1 + 1, rfl, by omega, by omega, by omega, by omega, by omega, by omega, Row.of_heap (four_heap _ _ _ _ _).1 HZ1, Row.of_heap (four_heap _ _ _ _ _).2.1 HZ2, Row.of_heap (four_heap _ _ _ _ _).2.2.1 HZ3, (four_heap _ _ _ _ _).2.2.2⟩
  · exact bodyPost_ret (v := .agg #[.int .i64 0, .slice ca cl cc, .int .i64 words, .slice (some ⟨w.heap.size + 1, 0, none⟩) n n, .slice (some ⟨w.heap.size + 1 + 1 + 1, 0, none⟩) slen slen, .slice (some ⟨w.heap.size + 1 + 1, 0, none⟩) n n, .slice none 0 0]) (by simp [results, Tryf.results34, go_sem]) rfl
      ⟨w.heap.size + 1, w.heap.size + 1 + 1 + 1, w.heap.size + 1 + 1, rfl, by omega, by omega, by omega, by omega, by omega, by omega, Row.of_heap (four_heap _ _ _ _ _).1 HZ1, Row.of_heap (four_heap _ _ _ _ _).2.2.1 HZ2, Row.of_heap (four_heap _ _ _ _ _).2.1 HZ3, (four_heap _ _ _ _ _).2.2.2⟩
  · exact bodyPost_ret (v := .agg #[.int .i64 0, .slice ca cl cc, .int .i64 words, .slice (some ⟨w.heap.size + 1 + 1, 0, none⟩) n n, .slice (some ⟨w.heap.size + 1, 0, none⟩) slen slen, .slice (some ⟨w.heap.size + 1 + 1 + 1, 0, none⟩) n n, .slice none 0 0]) (by simp [results, Tryf.results34, go_sem]) rfl
      ⟨w.heap.size + 1 + 1, w.heap.size + 1, w.heap.size + 1 + 1 + 1, rfl, by omega, by omega, by omega, by omega, by omega, by omega, Row.of_heap (four_heap _ _ _ _ _).2.1 HZ1, Row.of_heap (four_heap _ _ _ _ _).1 HZ2, Row.of_heap (four_heap _ _ _ _ _).2.2.1 HZ3, (four_heap _ _ _ _ _).2.2.2⟩
  · exact bodyPost_ret (v := .agg #[.int .i64 0, .slice ca cl cc, .int .i64 words, .slice (some ⟨w.heap.size + 1 + 1 + 1, 0, none⟩) n n, .slice (some ⟨w.heap.size + 1, 0, none⟩) slen slen, .slice (some ⟨w.heap.size + 1 + 1, 0, none⟩) n n, .slice none 0 0]) (by simp [results, Tryf.results34, go_sem]) rfl
      ⟨w.heap.size + 1 + 1 + 1, w.heap.size + 1, w.heap.size + 1 + 1, rfl, by omega, by omega, by omega, by omega, by omega, by omega, Row.of_heap (four_heap _ _ _ _ _).2.2.1 HZ1, Row.of_heap (four_heap _ _ _ _ _).1 HZ2, Row.of_heap (four_heap _ _ _ _ _).2.1 HZ3, (four_heap _ _ _ _ _).2.2.2⟩
  · exact bodyPost_ret (v := .agg #[.int .i64 0, .slice ca cl cc, .int .i64 words, .slice (some ⟨w.heap.size + 1 + 1, 0, none⟩) n n, .slice (some ⟨w.heap.size + 1 + 1 + 1, 0, none⟩) slen slen, .slice (some ⟨w.heap.size + 1, 0, none⟩) n n, .slice none 0 0]) (by simp [results, Tryf.results34, go_sem]) rfl
      ⟨w.heap.size + 1 + 1, w.heap.size + 1 + 1 + 1, w.heap.size + 1, rfl, by omega, by omega, by omega, by omega, by omega, by omega, Row.of_heap (four_heap _ _ _ _ _).2.1 HZ1, Row.of_heap (four_heap _ _ _ _ _).2.2.1 HZ2, Row.of_heap (four_heap _ _ _ _ _).1 HZ3, (four_heap _ _ _ _ _).2.2.2⟩
  · exact bodyPost_ret (v := .agg #[.int .i64 0, .slice ca cl cc, .int .i64 words, .slice (some ⟨w.heap.size + 1 + 1 + 1, 0, none⟩) n n, .slice (some ⟨w.heap.size + 1 + 1, 0, none⟩) slen slen, .slice (some ⟨w.heap.size + 1, 0, none⟩) n n, .slice none 0 0]) (by simp [results, Tryf.results34, go_sem]) rfl
      ⟨w.heap.size + 1 + 1 + 1, w.heap.size + 1 + 1, w.heap.size + 1, rfl, by omega, by omega, by omega, by omega, by omega, by omega, Row.of_heap (four_heap _ _ _ _ _).2.2.1 HZ1, Row.of_heap (four_heap _ _ _ _ _).2.1 HZ2, Row.of_heap (four_heap _ _ _ _ _).1 HZ3, (four_heap _ _ _ _ _).2.2.2⟩

set_option maxHeartbeats 3200000 in
set_option maxRecDepth 100000 in
theorem roundFor_calls (n words slen kb kn kcap tb tlen tcap : Nat) (number : Int) (w : World) (hn : n ≤ 1048576) (hsl : slen ≤ 1048576) (hs : slen = n * words) :
    Calls Tryf.prog 10 #[.int .i64 n, .int .i64 words, .int .i64 number, .slice (some ⟨kb, 0, none⟩) kn kcap, .slice (some ⟨tb, 0, none⟩) tlen tcap] w fun e w' => ∃ rb cb, e = .returned (.pointer (some ⟨rb, 0, none⟩)) ∧ w.heap.size ≤ rb ∧ w.heap.size ≤ cb ∧
      w'.cell? ⟨rb, 0, none⟩ = some (.int .i64 number) ∧ w'.cell? ⟨rb, 1, none⟩ = some (.slice (some ⟨kb, 0, none⟩) kn kcap) ∧ w'.cell? ⟨rb, 2, none⟩ = some (.int .i64 words) ∧ w'.cell? ⟨rb, 4, none⟩ = some (.slice (some ⟨tb, 0, none⟩) tlen tcap) ∧
      w'.cell? ⟨rb, 5, none⟩ = some (.slice (some ⟨cb, 0, none⟩) n n) ∧ Row w' cb 118 (n * 2) crashF ∧ Kp [] w w' := by
  have HN := hid (newRound_calls n words slen (some ⟨kb, 0, none⟩) kn kcap w hn hsl hs)
  clear hs
  go_enter Tryf.func10, Tryf.ntmps10
  go_wp2_with (go_at_call 34; refine HN.out.mono ?_; rintro e w1 ⟨mb, sb, cb, rfl, g1, g2, g3, g4, g5, g6, hr1, hr2, hr3, hk⟩)
  go_ret
  refine ⟨w1.heap.size, cb, rfl, hk.size, g3, ?_, ?_, ?_, ?_, ?_, hr3.alloc _, hk.alloc _⟩
  all_goals
    rw [World.cell?_alloc_at _ _ _ _ rfl]
    rfl

end Go.Proofs.Qxb6615056aFmt

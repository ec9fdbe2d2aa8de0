/-
  statesGood (33), zzBytes (26).
-/
import Derived.Test.Qxb6615056aFmtFall
namespace Go.Proofs.Qxb6615056aFmt
open Go.RowKit Go.Tocsin

set_option maxHeartbeats 1600000 in
set_option maxRecDepth 100000 in
theorem statesGood_calls (sb fk n c1 c2 : Nat) (md : Int) (fb : Nat → Bool) (st : Nat → Int) (w : World) (hn : n ≤ 1048576) (hm : 1 ≤ cw fb false n) (hF : ∀ i, i < n → w.cell? ⟨fk, i, none⟩ = some (.bool (fb i))) (hS : ∀ i, i < n → w.cell? ⟨sb, i, none⟩ = some (.int .i64 (st i))) :
    Calls Tryf.prog 33 #[.slice (some ⟨sb, 0, none⟩) n c1, .slice (some ⟨fk, 0, none⟩) n c2, .int .i64 md] w fun e w' => e = .returned (.bool (sbB (cw fb false n) md (fun j => st (nth fb false n j)))) ∧ Kp [] w w' := by
  obtain ⟨i0, hi, hz0, hz1, hz2⟩ := info_parts Tryf.info3
  have HF := hid hF
  have HS := hid hS
  have hcn := cw_le (fb := fb) (want := false) n
  clear hF hS
  go_enter Tryf.func33, Tryf.ntmps33
  go_wp2
  go_loopw [7, 8] (fun o i wr => ∃ (k : Nat) (a : Option Addr) (c : Nat), k ≤ n ∧ i = .int .i64 k ∧ o = .slice a (cw fb false k) c ∧ Own wr 3 (.slice a (cw fb false k) c) (cw fb false k) (fun i => .int .i64 (st (nth fb false n i))) ∧ (∀ j ∈ blks (.slice a (cw fb false k) c), w.heap.size ≤ j) ∧ Kp [] w wr) (fun _ i _ => n - (intOf i).toNat)
  case atStart => exact ⟨0, none, 0, by omega, rfl, rfl, Own.nil _ _ _, by simp [blks, Value.ownBlock], Kp.refl _ _⟩
  case round =>
    obtain ⟨k, a, c, hk, rfl, rfl, ho, hbk, hkp⟩ := hrel
    have HO := hid ho
    have HB := hid hbk
    have HK := hid hkp
    by_cases hlt : k < n
    · have hcb := hkp.cell' (HF.out k hlt) (by simp)
      have hcs := hkp.cell' (HS.out k hlt) (by simp)
      have hcl := cw_le (fb := fb) (want := false) k
      clear ho hbk hkp
      cases hw : fb k
      · rw [hw] at hcb
        have HW := hid hw
        clear hw
        go_wp2_with (at_builtin; refine wpList_append_one rfl (.tmp 25) (.tmp 30) 22 rfl 3 i0 (.int .i64 0) 8 Tryf.underlying22 hi hz0 hz1 hz2 rfl (.slice a (cw fb false k) c) (cw fb false k) (fun i => .int .i64 (st (nth fb false n i))) rfl (HO.out.alloc _) wr.heap.size 1 rfl (by rw [nth_cw hlt HW.out]; exact World.cell?_alloc_at _ _ _ _ rfl) rfl (by unfold maxLen; omega) (by omega) ?_; intro v' w2 ho2 hk2 hb2; obtain ⟨a', c', rfl, _⟩ := ho2.elim; have HO2 := hid ho2; have HK2 := hid hk2; have HB2 := hid hb2; clear ho2 hk2 hb2)
        go_roundw
        case rel =>
          have e1 : cw fb false (k + 1) = cw fb false k + 1 := by simp [cw, HW.out]
          have e2 : ∀ j ∈ blks (.slice a' (cw fb false k + 1) c'), w.heap.size ≤ j := fun j hj => by
            rcases HB2.out j hj with h | h
            · exact HB.out j h
            · have := HK.out.size; simp at h; omega
          exact ⟨k + 1, a', c', by omega, by go_num, by rw [e1], by rw [e1]; exact HO2.out, by rw [e1]; exact e2, (HK.out.alloc _).trans HK2.out (fun i hi => .inr (HB.out i hi))⟩
        case measure => simp [intOf]; omega
      · rw [hw] at hcb
        have HW := hid hw
        clear hw
        go_wp2
        go_roundw
        case rel =>
          have e1 : cw fb false (k + 1) = cw fb false k := by simp [cw, HW.out]
          exact ⟨k + 1, a, c, by omega, by go_num, by rw [e1], by rw [e1]; exact HO.out, by rw [e1]; exact HB.out, HK.out⟩
        case measure => simp [intOf]; omega
    · obtain rfl : n = k := by omega
      obtain ⟨a', c', e', hel⟩ := ho.elim
      obtain ⟨kb, rfl, hkbl, hkc⟩ := hel (by omega)
      cases e'
      have HKC := hid hkc
      clear ho hbk hkp hel hkc
      go_wp2_with fail
      refine (sameBelow_calls (cw fb false n) kb c md (fun j => st (nth fb false n j)) wr hm (by omega) HKC.out).mono ?_
      rintro e w2 ⟨rfl, q, rfl⟩
      go_wp2
      go_ret
      exact ⟨rfl, HK.out.drewN _⟩

set_option maxHeartbeats 1600000 in
set_option maxRecDepth 100000 in
theorem zzBytes26 (s x : Int) (a0 a1 : Option Addr) (l0 c0 l1 c1 : Nat) (w : World) (h0 : l0 ≤ maxLen) (h1 : l1 ≤ maxLen) :
    Calls Tryf.prog 26 #[.int .i64 s, .slice a0 l0 c0, .slice a1 l1 c1, .int .i64 x] w fun e w' => SaysB (l0 + l1 ≤ 1048576) e ∧ w' = w := by
  unfold maxLen at h0 h1
  by_cases g0 : (1048576 : Int) < (l0 : Int)
  · go_enter Tryf.func26, Tryf.ntmps26
    go_wp2
    go_ret
    exact ⟨SaysB.no _, rfl⟩
  by_cases g1 : (1048576 : Int) < (l1 : Int)
  · go_enter Tryf.func26, Tryf.ntmps26
    go_wp2
    go_ret
    exact ⟨SaysB.no _, rfl⟩
  by_cases g2 : (1048576 : Int) < (l0 : Int) + (l1 : Int)
  · go_enter Tryf.func26, Tryf.ntmps26
    go_wp2
    go_ret
    exact ⟨SaysB.no _, rfl⟩
  · have hP : l0 + l1 ≤ 1048576 := by omega
    have HP := hid hP
    clear hP
    go_enter Tryf.func26, Tryf.ntmps26
    go_wp2
    go_ret
    exact ⟨SaysB.yes HP.out, rfl⟩
end Go.Proofs.Qxb6615056aFmt

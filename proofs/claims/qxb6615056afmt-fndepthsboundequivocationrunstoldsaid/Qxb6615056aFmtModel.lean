/-
  THE WALKS OF idsWhere (28) AND stepModel (21).
-/
import Derived.Test.Qxb6615056aFmtRun
namespace Go.Proofs.Qxb6615056aFmt
open Go.RowKit Go.Tocsin

set_option maxHeartbeats 1600000 in
set_option maxRecDepth 100000 in
theorem idsWhere_calls (b n cap : Nat) (fb : Nat → Bool) (want : Bool) (w : World) (hn : n ≤ 1048576) (hc : ∀ i, i < n → w.cell? ⟨b, i, none⟩ = some (.bool (fb i))) :
    Calls Tryf.prog 28 #[.slice (some ⟨b, 0, none⟩) n cap, .bool want] w fun e w' => ∃ a c, e = .returned (.slice a (cw fb want n) c) ∧ Own w' 3 (.slice a (cw fb want n) c) (cw fb want n) (fun i => .int .i64 (nth fb want n i : Nat)) ∧ (∀ k ∈ blks (.slice a (cw fb want n) c), w.heap.size ≤ k) ∧ Kp [] w w' := by
  obtain ⟨i0, hi, hz0, hz1, hz2⟩ := info_parts Tryf.info3
  have HC := hid hc
  clear hc
  go_enter Tryf.func28, Tryf.ntmps28
  go_wp2
  go_loopw [5, 6] (fun o i wr => ∃ (k : Nat) (a : Option Addr) (c : Nat), k ≤ n ∧ i = .int .i64 k ∧ o = .slice a (cw fb want k) c ∧ Own wr 3 (.slice a (cw fb want k) c) (cw fb want k) (fun i => .int .i64 (nth fb want n i : Nat)) ∧ (∀ j ∈ blks (.slice a (cw fb want k) c), w.heap.size ≤ j) ∧ Kp [] w wr) (fun _ i _ => n - (intOf i).toNat)
  case atStart => exact ⟨0, none, 0, by omega, rfl, rfl, Own.nil _ _ _, by simp [blks, Value.ownBlock], Kp.refl _ _⟩
  case round =>
    obtain ⟨k, a, c, hk, rfl, rfl, ho, hbk, hkp⟩ := hrel
    have HO := hid ho
    have HB := hid hbk
    have HK := hid hkp
    by_cases hlt : k < n
    · have hcb := hkp.cell' (HC.out k hlt) (by simp)
      have hcl := cw_le (fb := fb) (want := want) k
      clear ho hbk hkp
      by_cases hw : fb k = want
      · have hbe : (fb k == want) = true := by simpa using hw
        have HW := hid hw
        clear hw
        go_wp2_with (at_builtin; refine wpList_append_one rfl (.tmp 19) (.tmp 21) 22 rfl 3 i0 (.int .i64 0) 8 Tryf.underlying22 hi hz0 hz1 hz2 rfl (.slice a (cw fb want k) c) (cw fb want k) (fun i => .int .i64 (nth fb want n i : Nat)) rfl (HO.out.alloc _) wr.heap.size 1 rfl (by rw [nth_cw hlt HW.out]; exact World.cell?_alloc_at _ _ _ _ rfl) rfl (by unfold maxLen; omega) (by omega) ?_; intro v' w2 ho2 hk2 hb2; obtain ⟨a', c', rfl, _⟩ := ho2.elim; have HO2 := hid ho2; have HK2 := hid hk2; have HB2 := hid hb2; clear ho2 hk2 hb2)
        go_roundw
        case rel =>
          have e1 : cw fb want (k + 1) = cw fb want k + 1 := by simp [cw, HW.out]
          have e2 : ∀ j ∈ blks (.slice a' (cw fb want k + 1) c'), w.heap.size ≤ j := fun j hj => by
            rcases HB2.out j hj with h | h
            · exact HB.out j h
            · have := HK.out.size; simp at h; omega
          exact ⟨k + 1, a', c', by omega, by go_num, by rw [e1], by rw [e1]; exact HO2.out, by rw [e1]; exact e2, (HK.out.alloc _).trans HK2.out (fun i hi => .inr (HB.out i hi))⟩
        case measure => simp [intOf]; omega
      · have hbe : (fb k == want) = false := by simpa using hw
        have HW := hid hw
        clear hw
        go_wp2
        go_roundw
        case rel =>
          have e1 : cw fb want (k + 1) = cw fb want k := by simp [cw, HW.out]
          exact ⟨k + 1, a, c, by omega, by go_num, by rw [e1], by rw [e1]; exact HO.out, by rw [e1]; exact HB.out, HK.out⟩
        case measure => simp [intOf]; omega
    · obtain rfl : n = k := by omega
      clear ho hbk hkp
      go_wp2
      go_ret
      exact ⟨a, c, rfl, HO.out, HB.out, HK.out⟩

/-- The model's row while the correct nodes are filled in: the first i are. -/
def mdI (n s : Nat) (nx : Nat → Nat) (fb : Nat → Bool) (st : Nat → Int) (i : Nat) (v : Nat) : Int :=
  if fb v = false ∧ cw fb false v < i then stepF n s nx fb st v else -1

set_option maxHeartbeats 3200000 in
set_option maxRecDepth 100000 in
theorem stepModel_calls (s n ln nb fk kb' : Nat) (nx : Nat → Nat) (fb : Nat → Bool) (st : Nat → Int) (w : World) (hn1 : 1 ≤ n) (hn2 : n ≤ 4096) (hs1 : 1 ≤ s) (hs2 : s ≤ 256) (hln : ln ≤ 1048576) (hsh : s ^ n * n = ln) (hb : ∀ i, nx i < 256) (hkn : 0 < cw fb false n)
    (hN : Row w nb 5 ln (fun i => .int .u8 (nx i : Nat))) (hF : Row w fk 4 n (fun i => .bool (fb i))) (hC : Row w kb' 3 n (fun v => .int .i64 (st v))) (hst : StOk n s fb st) :
    Calls Tryf.prog 21 #[.int .i64 s, .slice (some ⟨nb, 0, none⟩) ln ln, .slice (some ⟨fk, 0, none⟩) n n, .slice (some ⟨kb', 0, none⟩) n n] w fun e w' => ∃ g, e = .returned (.slice (some ⟨g, 0, none⟩) n n) ∧ w.heap.size ≤ g ∧ Row w' g 3 n (fun v => .int .i64 (stepF n s nx fb st v)) ∧ Kp [] w w' := by
  obtain ⟨i0, hi, hz0, hz1, hz2⟩ := info_parts Tryf.info3
  have hpn : s ^ n ≤ 1048576 := by
    have : s ^ n * 1 ≤ s ^ n * n := Nat.mul_le_mul_left _ hn1
    omega
  have HIds := hid (idsWhere_calls fk n n fb false w (by omega) (fun i h => hF.cell h))
  have HN := hid hN
  have HF := hid hF
  have HC := hid hC
  have HB := hid hb
  have HO := hid hst
  have HSh := hid hsh
  have HPn := hid hpn
  have hcl := cw_le (fb := fb) (want := false) n
  clear hN hF hC hb hst hsh hpn
  go_enter Tryf.func21, Tryf.ntmps21
  go_wp2_with fail
  refine HIds.out.mono ?_
  rintro e w1 ⟨a, c, rfl, ho, hbk, k1⟩
  obtain ⟨a', c', e', hel⟩ := ho.elim
  obtain ⟨kb, rfl, hkbl, hkc⟩ := hel hkn
  cases e'
  have HKC := hid hkc
  have K1 := hid k1
  clear HIds ho hel hkc k1 hbk
  go_wp2_with (at_make; refine wpList_make_row _ rfl _ _ 22 rfl 3 i0 (.int .i64 0) 1 Tryf.underlying22 hi hz0 hz1 _ _ _ _ n rfl rfl rfl rfl (by rw [hz2]; omega) (by unfold maxLen; omega) (fun _ => .int .i64 0) (by rw [Nat.mul_one]; exact madeCells_one _ _) ?_; intro w2 hr2 hk2 hs2')
  rw [Nat.mul_one] at hr2
  have K2 := hid (K1.out.trans hk2 (by simp))
  have R2 := hid hr2
  have HKC2 : Hid (∀ i, i < cw fb false n → w2.cell? ⟨kb, i, none⟩ = some (.int .i64 (nth fb false n i : Nat))) := fun i h => hk2.cell' (HKC.out i h) (by simp)
  have hgb : w.heap.size ≤ w1.heap.size := K1.out.size
  have hkb1 : kb < w1.heap.size := World.block_lt_of_cell? _ _ (HKC.out 0 hkn)
  obtain ⟨g, hg⟩ : ∃ g, g = w1.heap.size := ⟨_, rfl⟩
  rw [← hg] at R2
  rw [← hg]
  have hgw : w.heap.size ≤ g := by omega
  have hkg : ¬ kb = g := by omega
  have hkg' : ¬ g = kb := by omega
  clear hg hr2 hk2 hs2' HKC hkb1 hgb
  go_loopw [12] (fun j wr => ∃ k : Nat, k ≤ n ∧ j = .int .i64 k ∧ Row wr g 3 n (fun v => .int .i64 (if v < k then -1 else 0)) ∧ Kp [g] w2 wr) (fun j _ => n - (intOf j).toNat)
  case atStart => exact ⟨0, by omega, rfl, R2.out.congr (fun v _ => by simp), Kp.refl _ _⟩
  case round =>
    obtain ⟨k, hk, rfl, hr, hkp⟩ := hrel
    have HR := hid hr
    have HK := hid hkp
    by_cases hlt : k < n
    · have hc := hr.cell hlt
      have hf := hr.frozen k
      clear hr hkp
      go_wp2
      go_roundw
      case rel =>
        refine ⟨k + 1, by omega, by go_num, (HR.out.set k _).congr (fun v hv => ?_), HK.out.setCell (.inl (by simp)) _⟩
        by_cases e : v = k
        · subst e; rw [if_pos rfl, if_pos (by omega)]
        · rw [if_neg e]
          by_cases e2 : v < k
          · rw [if_pos e2, if_pos (by omega)]
          · rw [if_neg e2, if_neg (by omega)]
      case measure => simp [intOf]; omega
    · obtain rfl : n = k := by omega
      have I0 : Hid (Row wr g 3 n (fun v => .int .i64 (mdI n s nx fb st 0 v))) := hr.congr (fun v hv => by simp [mdI, hv])
      clear hr hkp
      go_wp2
      go_loopw [14] (fun j wq => ∃ i : Nat, i ≤ cw fb false n ∧ j = .int .i64 i ∧ Row wq g 3 n (fun v => .int .i64 (mdI n s nx fb st i v)) ∧ Kp [g] w2 wq) (fun j _ => cw fb false n - (intOf j).toNat)
      case atStart => exact ⟨0, by omega, rfl, I0.out, HK.out⟩
      case round =>
        obtain ⟨i, hi', rfl, hr, hkp⟩ := hrel
        have HR2 := hid hr
        have HKq := hid hkp
        by_cases hil : i < cw fb false n
        · have hv := nth_lt hil
          have hrk := cw_nth hil
          obtain ⟨v, hvd⟩ : ∃ v, v = nth fb false n i := ⟨_, rfl⟩
          have hsr := srcOf_lt (n := n) hil
          have hci := hkp.cell' (HKC2.out i hil) (by simpa using hkg)
          have hcl' := hkp.cell' (HKC2.out (cw fb false n - 1) (by omega)) (by simpa using hkg)
          have hc0 := hkp.cell' (HKC2.out 0 hkn) (by simpa using hkg)
          rw [← hvd] at hv hrk hci
          obtain ⟨lo, hlo⟩ : ∃ lo, lo = nth fb false n 0 := ⟨_, rfl⟩
          obtain ⟨hi2, hhi⟩ : ∃ hi2, hi2 = nth fb false n (cw fb false n - 1) := ⟨_, rfl⟩
          rw [← hlo] at hc0
          rw [← hhi] at hcl'
          obtain ⟨sr, hsrd⟩ : ∃ sr, sr = srcOf fb n i := ⟨_, rfl⟩
          rw [← hsrd] at hsr
          have HV := hid hvd
          have hcs := hr.cell hv.1
          have hfs := hr.frozen v
          obtain ⟨x, hx⟩ : ∃ x, x = st sr := ⟨_, rfl⟩
          have hxb : 0 ≤ x ∧ x < s := by rw [hx]; exact HO.out.c _ hsr.1 hsr.2
          obtain ⟨Hn, hHn⟩ : ∃ Hn : Nat → Int, Hn = fun u => horner s (seenBy fb st x) u := ⟨_, rfl⟩
          have HH0 : Hid (Hn 0 = 0) := by rw [hHn]; rfl
          have HHs : Hid (∀ u, Hn (u + 1) = Hn u * (s : Int) + seenBy fb st x u) := by rw [hHn]; exact fun u => rfl
          have HHb : Hid (∀ u, u ≤ n → 0 ≤ Hn u ∧ Hn u < ((s ^ u : Nat) : Int) ∧ s ^ u ≤ 1048576) := by
            rw [hHn]
            intro u hu
            have h1 := horner_bound (s := s) (D := seenBy fb st x) (n := u) (fun a ha => seenBy_ok HO.out hxb a (by omega))
            exact ⟨h1.1, h1.2, Nat.le_trans (Nat.pow_le_pow_right hs1 hu) HPn.out⟩
          have HHn : Hid (Hn n = num s (seenBy fb st x) n) := by rw [hHn, num_eq_horner]; rfl
          have HX := hid hx
          have HSR := hid hsrd
          have HLO := hid hlo
          have HHI := hid hhi
          clear hvd hx hHn hr hkp hsrd hlo hhi
          have nkw : ∀ b, b < w.heap.size → b ∉ [g] := fun b hb => by simp; omega
          have CC : Hid (∀ u, u < n → wr.cell? ⟨kb', u, none⟩ = some (.int .i64 (st u))) := fun u h => HKq.out.cell' (K2.out.cell' (HC.out.cell h) (by simp)) (nkw _ HC.out.lt)
          have CF : Hid (∀ u, u < n → wr.cell? ⟨fk, u, none⟩ = some (.bool (fb u))) := fun u h => HKq.out.cell' (K2.out.cell' (HF.out.cell h) (by simp)) (nkw _ HF.out.lt)
          have CN : Hid (∀ u, u < ln → wr.cell? ⟨nb, u, none⟩ = some (.int .u8 (nx u : Nat))) := fun u h => HKq.out.cell' (K2.out.cell' (HN.out.cell h) (by simp)) (nkw _ HN.out.lt)
          clear nkw
          by_cases hh : 2 * i < cw fb false n
          · have hhI : (i : Int) < ((cw fb false n : Int) + 1) / 2 := by omega
            have esr : lo = sr := by rw [HSR.out, HLO.out]; unfold srcOf; rw [if_pos hh]
            subst esr
            go_wp2
            go_loop [17, 18] (fun ix j => ∃ u : Nat, u ≤ n ∧ j = .int .i64 u ∧ ix = .int .i64 (Hn u)) (fun _ j => n - (intOf j).toNat)
            case atStart => exact ⟨0, by omega, rfl, by rw [HH0.out]⟩
            case round =>
              obtain ⟨u, hu, rfl, rfl⟩ := hrel
              by_cases hul : u < n
              · have hcu := CC.out u hul
                have hcf := CF.out u hul
                have hcx := CC.out lo hsr.1
                rw [← HX.out] at hcx
                have hb0 := HHb.out u hu
                have hb1 := HHb.out (u + 1) (by omega)
                have hE := HHs.out u
                have hm0 : 0 ≤ Hn u * (s : Int) := Int.mul_nonneg hb0.1 (by omega)
                have hsb := seenBy_ok HO.out hxb u hul
                cases hbu : fb u
                · have e1 : seenBy fb st x u = st u := by simp [seenBy, hbu]
                  rw [e1] at hE hsb
                  rw [hbu] at hcf
                  have hm1 : Hn u * (s : Int) ≤ 1048576 := by omega
                  have hm2 : Hn u * (s : Int) + st u ≤ 1048576 := by omega
                  have HE := hid hE
                  clear hE hbu e1 hb1 hb0
                  go_wp2
                  go_round
                  case rel => exact ⟨u + 1, by omega, by go_num, by rw [HE.out]⟩
                  case measure => simp [intOf]; omega
                · have e1 : seenBy fb st x u = x := by simp [seenBy, hbu]
                  rw [e1] at hE hsb
                  rw [hbu] at hcf
                  have hm1 : Hn u * (s : Int) ≤ 1048576 := by omega
                  have hm2 : Hn u * (s : Int) + x ≤ 1048576 := by omega
                  have HE := hid hE
                  clear hE hbu e1 hb1 hb0
                  go_wp2
                  go_round
                  case rel => exact ⟨u + 1, by omega, by go_num, by rw [HE.out]⟩
                  case measure => simp [intOf]; omega
              · obtain rfl : n = u := by omega
                have hb0 := HHb.out n (Nat.le_refl _)
                obtain ⟨idx, hidx⟩ := Int.eq_ofNat_of_zero_le hb0.1
                have hil2 := idx_lt (idx := idx) HSh.out (by omega) hv.1
                have hcn := CN.out _ hil2
                have hbx := HB.out (idx * n + v)
                have HStep : Hid (((nx (idx * n + v) : Nat) : Int) = stepF n s nx fb st v) := by
                  have e1 : num s (seenBy fb st x) n = (idx : Int) := by rw [← HHn.out, hidx]
                  show _ = stepF n s nx fb st v
                  unfold stepF
                  rw [hv.2, if_neg (by simp), hrk, ← HSR.out, ← HX.out, e1]
                  simp
                have hm0 : (0 : Int) ≤ (idx : Int) * (n : Int) := by rw [← Int.natCast_mul]; omega
                have hm1 : (idx : Int) * (n : Int) + (v : Int) < (ln : Int) := by rw [← Int.natCast_mul]; omega
                rw [hidx]
                clear hidx hb0
                go_wp2
                go_roundw
                case rel =>
                  refine ⟨i + 1, by omega, by go_num, ?_, HKq.out.setCell (.inl (by simp)) _⟩
                  refine (HR2.out.set v _).congr (fun t ht => ?_)
                  by_cases e : t = v
                  · subst e
                    rw [if_pos rfl, HStep.out]
                    simp [mdI, hv.2, hrk]
                  · rw [if_neg e]
                    cases hb : fb t
                    · have : cw fb false t ≠ i := fun e2 => e (by rw [HV.out, ← e2]; exact (nth_cw ht hb).symm)
                      have : (cw fb false t < i + 1 ↔ cw fb false t < i) := by omega
                      simp [mdI, hb, this]
                    · simp [mdI, hb]
                case measure => simp [intOf]; omega
          · have hhI : ¬ (i : Int) < ((cw fb false n : Int) + 1) / 2 := by omega
            have esr : hi2 = sr := by rw [HSR.out, HHI.out]; unfold srcOf; rw [if_neg hh]
            subst esr
            go_wp2
            go_loop [17, 18] (fun ix j => ∃ u : Nat, u ≤ n ∧ j = .int .i64 u ∧ ix = .int .i64 (Hn u)) (fun _ j => n - (intOf j).toNat)
            case atStart => exact ⟨0, by omega, rfl, by rw [HH0.out]⟩
            case round =>
              obtain ⟨u, hu, rfl, rfl⟩ := hrel
              by_cases hul : u < n
              · have hcu := CC.out u hul
                have hcf := CF.out u hul
                have hcx := CC.out hi2 hsr.1
                rw [← HX.out] at hcx
                have hb0 := HHb.out u hu
                have hb1 := HHb.out (u + 1) (by omega)
                have hE := HHs.out u
                have hm0 : 0 ≤ Hn u * (s : Int) := Int.mul_nonneg hb0.1 (by omega)
                have hsb := seenBy_ok HO.out hxb u hul
                cases hbu : fb u
                · have e1 : seenBy fb st x u = st u := by simp [seenBy, hbu]
                  rw [e1] at hE hsb
                  rw [hbu] at hcf
                  have hm1 : Hn u * (s : Int) ≤ 1048576 := by omega
                  have hm2 : Hn u * (s : Int) + st u ≤ 1048576 := by omega
                  have HE := hid hE
                  clear hE hbu e1 hb1 hb0
                  go_wp2
                  go_round
                  case rel => exact ⟨u + 1, by omega, by go_num, by rw [HE.out]⟩
                  case measure => simp [intOf]; omega
                · have e1 : seenBy fb st x u = x := by simp [seenBy, hbu]
                  rw [e1] at hE hsb
                  rw [hbu] at hcf
                  have hm1 : Hn u * (s : Int) ≤ 1048576 := by omega
                  have hm2 : Hn u * (s : Int) + x ≤ 1048576 := by omega
                  have HE := hid hE
                  clear hE hbu e1 hb1 hb0
                  go_wp2
                  go_round
                  case rel => exact ⟨u + 1, by omega, by go_num, by rw [HE.out]⟩
                  case measure => simp [intOf]; omega
              · obtain rfl : n = u := by omega
                have hb0 := HHb.out n (Nat.le_refl _)
                obtain ⟨idx, hidx⟩ := Int.eq_ofNat_of_zero_le hb0.1
                have hil2 := idx_lt (idx := idx) HSh.out (by omega) hv.1
                have hcn := CN.out _ hil2
                have hbx := HB.out (idx * n + v)
                have HStep : Hid (((nx (idx * n + v) : Nat) : Int) = stepF n s nx fb st v) := by
                  have e1 : num s (seenBy fb st x) n = (idx : Int) := by rw [← HHn.out, hidx]
                  show _ = stepF n s nx fb st v
                  unfold stepF
                  rw [hv.2, if_neg (by simp), hrk, ← HSR.out, ← HX.out, e1]
                  simp
                have hm0 : (0 : Int) ≤ (idx : Int) * (n : Int) := by rw [← Int.natCast_mul]; omega
                have hm1 : (idx : Int) * (n : Int) + (v : Int) < (ln : Int) := by rw [← Int.natCast_mul]; omega
                rw [hidx]
                clear hidx hb0
                go_wp2
                go_roundw
                case rel =>
                  refine ⟨i + 1, by omega, by go_num, ?_, HKq.out.setCell (.inl (by simp)) _⟩
                  refine (HR2.out.set v _).congr (fun t ht => ?_)
                  by_cases e : t = v
                  · subst e
                    rw [if_pos rfl, HStep.out]
                    simp [mdI, hv.2, hrk]
                  · rw [if_neg e]
                    cases hb : fb t
                    · have : cw fb false t ≠ i := fun e2 => e (by rw [HV.out, ← e2]; exact (nth_cw ht hb).symm)
                      have : (cw fb false t < i + 1 ↔ cw fb false t < i) := by omega
                      simp [mdI, hb, this]
                    · simp [mdI, hb]
                case measure => simp [intOf]; omega
        · obtain rfl : cw fb false n = i := by omega
          clear hr hkp
          go_wp2
          go_ret
          refine ⟨g, rfl, hgw, HR2.out.congr (fun v hv => ?_), K2.out.trans HKq.out (by simpa using hgw)⟩
          cases hb : fb v
          · have := cw_lt hv hb
            simp [mdI, hb, this]
          · simp [mdI, stepF, hb]

end Go.Proofs.Qxb6615056aFmt

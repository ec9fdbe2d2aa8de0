/-
  advance: the next step in the product of the masks.
-/
import Derived.Test.Qxb6615056aDoorSucc
namespace Go.Proofs.Qxb6615056aDoor
open Go.RowKit Go.Tocsin

theorem TabAt.drewN {w : World} (h : TabAt w) (n : Nat) : TabAt (w.drewN n) := h
theorem ctz_spec {x : Nat} (h0 : x ≠ 0) (hx : x < 65536) : x.testBit (Lib.ctz 16 x) = true ∧ (∀ b, x.testBit b = true → Lib.ctz 16 x ≤ b) ∧ Lib.ctz 16 x < 16 := by
  have e : Lib.ctz 16 x = Lib.ctzFrom 16 x := by unfold Lib.ctz; rw [if_neg h0]
  obtain ⟨m, h1, h2⟩ := Lib.ctzFrom_spec 16 x (by omega) hx
  rw [e]
  generalize Lib.ctzFrom 16 x = c at *
  subst h1
  refine ⟨?_, fun b hb => ?_, h2⟩
  · rw [Nat.testBit_two_pow_mul]
    simp
  · rw [Nat.testBit_two_pow_mul] at hb
    simp at hb
    exact hb.1
theorem BitsOf.ne {M : Nat} {P : Nat → Prop} (h : BitsOf M P) {b : Nat} (hb : P b) : M ≠ 0 := fun e => by
  have := (h.2 b).2 hb
  rw [e] at this
  simp at this
theorem BitsOf.lo {M : Nat} {P : Nat → Prop} (h : BitsOf M P) {b : Nat} (hb : P b) : P (Lib.ctz 16 M) ∧ (∀ y, P y → Lib.ctz 16 M ≤ y) ∧ Lib.ctz 16 M < 16 := by
  obtain ⟨h1, h2, h3⟩ := ctz_spec (h.ne hb) h.1
  exact ⟨(h.2 _).1 h1, fun y hy => h2 y ((h.2 y).2 hy), h3⟩
/-- The states above d. -/
def abv (M d : Nat) : Nat := M &&& (65535 - (2 ^ (d + 1) - 1))
theorem abv_bits {M d : Nat} {P : Nat → Prop} (h : BitsOf M P) (hd : d < 16) : BitsOf (abv M d) (fun b => P b ∧ d < b) := by
  have h2 : 2 ^ (d + 1) ≤ 2 ^ 16 := Nat.pow_le_pow_right (by omega) (by omega)
  have h3 : 0 < 2 ^ (d + 1) := Nat.pow_pos (by omega)
  have h4 : 65535 - (2 ^ (d + 1) - 1) < 2 ^ 16 := by omega
  refine ⟨Nat.and_lt_two_pow (n := 16) _ h4, fun b => ?_⟩
  unfold abv
  rw [Nat.testBit_and, Bool.and_eq_true, h.2 b]
  have e : 65535 - (2 ^ (d + 1) - 1) = 2 ^ 16 - (2 ^ (d + 1) - 1 + 1) := by omega
  rw [e, Nat.testBit_two_pow_sub_succ (by omega), Nat.testBit_two_pow_sub_one]
  constructor
  · rintro ⟨h5, h6⟩
    simp at h6
    exact ⟨h5, by omega⟩
  · rintro ⟨h5, h6⟩
    have h7 : b < 16 := by
      have h8 := (h.2 b).2 h5
      by_cases hb : b < 16
      · exact hb
      · have h9 : M.testBit b = false := Nat.testBit_lt_two_pow (Nat.lt_of_lt_of_le h.1 (show 2 ^ 16 ≤ 2 ^ b from Nat.pow_le_pow_right (by omega) (by omega)))
        rw [h9] at h8
        cases h8
    exact ⟨h5, by simp; omega⟩
theorem bits_andNot_u16_nat (a b : Nat) (ha : a < 65536) (hb : b < 65536) : bits .andNot .u16 (a : Int) (b : Int) = ((a &&& (65535 - b) : Nat) : Int) := by
  have hx : a &&& (65535 - b) < 2 ^ 16 := Nat.and_lt_two_pow _ (by omega)
  have h1 : (BitVec.ofInt 16 (a : Int)).toNat = a := by
    rw [BitVec.ofInt_natCast, BitVec.toNat_ofNat]; exact Nat.mod_eq_of_lt (by omega)
  have h2 : (BitVec.ofInt 16 (b : Int)).toNat = b := by
    rw [BitVec.ofInt_natCast, BitVec.toNat_ofNat]; exact Nat.mod_eq_of_lt (by omega)
  show IntKind.u16.wrap ((BitVec.ofInt 16 (a : Int) &&& ~~~ BitVec.ofInt 16 (b : Int)).toNat : Int) = _
  rw [BitVec.toNat_and, BitVec.toNat_not, h1, h2, wrap_u16]
  have e : 2 ^ 16 - 1 - b = 65535 - b := by omega
  rw [e]
  omega
theorem low_u16 {d : Nat} (hd : d < 16) : IntKind.u16.wrap (IntKind.u16.wrap (2 * (2 : Int) ^ d) - 1) = ((2 ^ (d + 1) - 1 : Nat) : Int) := by
  have h2 : 2 ^ (d + 1) ≤ 2 ^ 16 := Nat.pow_le_pow_right (by omega) (by omega)
  have h3 : 0 < 2 ^ (d + 1) := Nat.pow_pos (by omega)
  have e : (2 * (2 : Int) ^ d) = ((2 ^ (d + 1) : Nat) : Int) := by rw [Nat.pow_succ, Nat.mul_comm]; simp
  rw [e, wrap_u16, wrap_u16]
  clear e
  generalize 2 ^ (d + 1) = p at *
  omega
theorem abv_u16 {M d : Nat} (hM : M < 65536) (hd : d < 16) : bits .andNot .u16 (M : Int) (IntKind.u16.wrap (IntKind.u16.wrap (2 * (2 : Int) ^ d) - 1)) = (abv M d : Nat) := by
  have h2 : 2 ^ (d + 1) ≤ 2 ^ 16 := Nat.pow_le_pow_right (by omega) (by omega)
  rw [low_u16 hd, bits_andNot_u16_nat M _ hM (by omega)]
  rfl

set_option maxHeartbeats 1600000 in
set_option maxRecDepth 100000 in
theorem advance_calls (pb o gm gd m s : Nat) (M d : Nat → Nat) (K : Nat → Nat → Prop) (w : World) (hm1 : 1 ≤ m) (hm2 : m ≤ 1048576) (hs : s ≤ 16) (hgm : gm ≠ gd) (hpb : pb ≠ gd) (h0g : 0 ≠ gd) (hT : TabAt w)
    (c1 : w.cell? ⟨pb, o + 1, none⟩ = some (.slice (some ⟨gm, 0, none⟩) m m)) (c2 : w.cell? ⟨pb, o + 2, none⟩ = some (.slice (some ⟨gd, 0, none⟩) m m))
    (hM : MRow w gm m M) (hB : ∀ j, j < m → BitsOf (M j) (K j)) (hK : ∀ j x, j < m → K j x → x < s) (hD : DRow w gd m d) (hd : ∀ j, j < m → K j (d j)) :
    Calls Tryd.prog 26 #[.pointer (some ⟨pb, o, none⟩)] w fun e w' => ∃ β d', e = .returned (.bool β) ∧ DRow w' gd m d' ∧ (β = true → Prod' s m K d' ∧ IsNext s m K d d') ∧ (β = false → ∀ e, Prod' s m K e → ix s e m ≤ ix s d m) ∧ Kp [gd] w w' := by
  have HM := hid hM
  have HB := hid hB
  have HK := hid hK
  have HD := hid hD
  have HDs := hid hd
  have HT := hid hT
  have hgm' : gm ∉ [gd] := by simpa using hgm
  have hpb' : pb ∉ [gd] := by simpa using hpb
  have hpbd : ¬ pb = gd := hpb
  have h0 : 0 ∉ [gd] := by simpa using h0g
  have HL : Hid (∀ j, j < m → K j (Lib.ctz 16 (M j)) ∧ (∀ y, K j y → Lib.ctz 16 (M j) ≤ y) ∧ Lib.ctz 16 (M j) < 16) := fun j hj => (hB j hj).lo (hd j hj)
  have HPd : Hid (Prod' s m K d) := fun j hj => ⟨hK j _ hj (hd j hj), hd j hj⟩
  have HPl : Hid (Prod' s m K (fun j => Lib.ctz 16 (M j))) := fun j hj => ⟨hK j _ hj (HL.out j hj).1, (HL.out j hj).1⟩
  clear hM hB hK hD hd hT
  go_enter Tryd.func26, Tryd.ntmps26
  go_wp2
  go_loopw [3, 4] (fun i _ wr => ∃ k : Nat, k ≤ m ∧ i = .int .i64 ((k : Int) - 1) ∧ DRow wr gd m (fun q => if q < k then d q else Lib.ctz 16 (M q)) ∧ (∀ q, k ≤ q → q < m → ∀ y, K q y → y ≤ d q) ∧ Kp [gd] w wr) (fun i _ _ => (intOf i + 1).toNat)
  case atStart => exact ⟨m, by omega, by go_num, HD.out.congr (fun q hq => by simp [hq]), fun q h1 h2 => by omega, Kp.refl _ _⟩
  case round =>
    obtain ⟨k, hk, rfl, hr, ht, hkp⟩ := hrel
    have HRr := hid hr
    have HTt := hid ht
    have HKp := hid hkp
    by_cases h0k : k = 0
    · subst h0k
      clear hr ht hkp
      go_wp2
      go_ret
      exact ⟨false, _, rfl, HRr.out, (fun h => by cases h), fun _ e he => hi_last (M := K) (fun q hq => HTt.out q (by omega) hq) he, HKp.out⟩
    · obtain ⟨j, rfl⟩ : ∃ j, k = j + 1 := ⟨k - 1, by omega⟩
      have hjm : j < m := by omega
      have hdj := HK.out j _ hjm (HDs.out j hjm)
      have hBj := HB.out j hjm
      have hMj := hBj.1
      have hcj := hr.cell hjm
      have hfj := hr.frozen j
      simp only [show j < j + 1 by omega, if_true] at hcj
      have hcm := hkp.cell' (HM.out.cell hjm) hgm'
      have c1' := hkp.cell' c1 hpb'
      have c2' := hkp.cell' c2 hpb'
      have HTr := hid (HT.out.kp hkp h0)
      have HAb := hid (abv_u16 hMj (d := d j) (by omega))
      have HBab := hid (abv_bits hBj (d := d j) (by omega))
      have HLj := hid (HL.out j hjm)
      have hMne := hBj.ne (HDs.out j hjm)
      clear hr ht hkp hBj
      go_wp2
      go_quiet (fail)
      rw [HAb.out]
      obtain ⟨ab, hab⟩ : ∃ ab, ab = abv (M j) (d j) := ⟨_, rfl⟩
      rw [← hab] at HBab
      rw [← hab]
      clear HAb hab
      have habl := HBab.out.1
      by_cases hz : ab = 0
      · have hzb : ((ab : Int) != 0) = false := by simp [hz]
        have HMx : Hid (∀ y, K j y → y ≤ d j) := fun y hy => by
          have h1 := HBab.out.2 y
          rw [hz] at h1
          simp at h1
          exact h1 hy
        go_wp2_with fail
        go_region_with (go_at_call 30; refine (tz_calls (M j) _ hMne hMj (HTr.out.drewN _)).mono ?_; rintro e w9 ⟨rfl, rfl⟩)
        all_goals
          go_wp2
          go_roundw
          case rel =>
            refine ⟨j, by omega, by go_num, ?_, fun q h1 h2 => ?_, ?_⟩
            · refine (HRr.out.set j _).congr (fun q hq => ?_)
              dsimp only
              by_cases e : q = j
              · simp [e]
              · by_cases e2 : q < j
                · have e3 : q < j + 1 := by omega
                  simp [e, e2, e3]
                · have e3 : ¬ q < j + 1 := by omega
                  simp [e, e2, e3]
            · by_cases e : q = j
              · subst e; exact HMx.out
              · exact HTt.out q (by omega) h2
            · exact (HKp.out.setCell (.inl (by simp)) _).drewN _
          case measure => simp [intOf]
      · have hzb : ((ab : Int) != 0) = true := by simp; omega
        have hc := ctz_spec hz habl
        have hcx := (HBab.out.2 _).1 hc.1
        have HCx := hid hcx
        have HCm : Hid (∀ y, K j y → d j < y → Lib.ctz 16 ab ≤ y) := fun y hy hl => hc.2.1 y ((HBab.out.2 y).2 ⟨hy, hl⟩)
        clear hc hcx
        go_wp2_with fail
        go_region_with (go_at_call 30; refine (tz_calls ab _ hz habl (HTr.out.drewN _)).mono ?_; rintro e w9 ⟨rfl, rfl⟩)
        all_goals
          go_wp2
          go_ret
          refine ⟨true, bump d (fun q => Lib.ctz 16 (M q)) j (Lib.ctz 16 ab), rfl, ?_, fun _ => ⟨?_, ?_⟩, (fun h => by cases h), ?_⟩
          · refine (HRr.out.set j _).congr (fun q hq => ?_)
            dsimp only
            unfold bump
            by_cases e : q = j
            · simp [e]
            · by_cases e2 : q < j
              · have e3 : q < j + 1 := by omega
                simp [e, e2, e3]
              · have e3 : ¬ q < j + 1 := by omega
                simp [e, e2, e3]
          · exact bump_prod HPd.out HPl.out (HK.out j _ hjm HCx.out.1) HCx.out.1
          · exact bump_next HCx.out.2 (HK.out j _ hjm HCx.out.1) HCm.out hjm HPd.out (fun q h1 h2 => ⟨(HPl.out q h2).1, (HL.out q h2).2.1, HTt.out q (by omega) h2⟩)
          · exact (HKp.out.setCell (.inl (by simp)) _).drewN _
end Go.Proofs.Qxb6615056aDoor

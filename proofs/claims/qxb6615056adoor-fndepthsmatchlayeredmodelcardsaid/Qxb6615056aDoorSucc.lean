/-
  successors: the masks.
-/
import Derived.Test.Qxb6615056aDoorLies
import Derived.Deep.LoopGhost
import Derived.Lib.SliceRun
namespace Go.Proofs.Qxb6615056aDoor
open Go.RowKit Go.Tocsin

theorem Row.setCells {g : Nat} {t : TypeId} {n : Nat} (z : Value) : ∀ (k o : Nat) (w : World) (F : Nat → Value), o + k ≤ n → Row w g t n F → Row (w.setCells g o (List.replicate k z)) g t n (fun j => if o ≤ j ∧ j < o + k then z else F j)
  | 0, o, w, F, _, h => by
    refine Row.congr h (fun j _ => ?_)
    rw [if_neg (by omega)]
  | k + 1, o, w, F, hk, h => by
    have ih := Row.setCells z k (o + 1) (w.setCell ⟨g, o, none⟩ z) _ (by omega) (h.set o z)
    refine Row.congr ih (fun j _ => ?_)
    by_cases h1 : o + 1 ≤ j ∧ j < o + 1 + k
    · rw [if_pos h1, if_pos (by omega)]
    · rw [if_neg h1]
      by_cases h2 : j = o
      · rw [if_pos h2, if_pos (by omega)]
      · rw [if_neg h2, if_neg (by omega)]
theorem Kp.setCells (g : Nat) : ∀ (vs : List Value) (o : Nat) (w : World), Kp [g] w (w.setCells g o vs)
  | [], _, w => Kp.refl _ w
  | v :: vs, o, w => (Kp.set w g o v).trans (Kp.setCells g vs (o + 1) _) (by simp)

def MRow (w : World) (g m : Nat) (M : Nat → Nat) : Prop := Row w g 72 m (fun i => .int .u16 (M i : Nat))

/-- What is seen: the correct nodes in the states st (by rank), the lies numbered t. -/
def see (V : VP) (st : Nat → Nat) (t : Nat) : Nat → Nat := fun u => if V.fb u = true then dg V.s V.ml t (cw V.fb true u) else st (cw V.fb false u)
/-- Where correct node j goes. -/
def tgt (V : VP) (st : Nat → Nat) (t j : Nat) : Nat := V.nx (ix V.s (see V st t) V.n * V.n + nth V.fb false V.n j)
/-- Node j can go to b, by one of the first T choices of lies. -/
def Can (V : VP) (st : Nat → Nat) (T j b : Nat) : Prop := ∃ t, t < T ∧ tgt V st t j = b
def BitsOf (M : Nat) (P : Nat → Prop) : Prop := M < 65536 ∧ ∀ b, M.testBit b = true ↔ P b

theorem see_lt {V : VP} (G : VG V) {st : Nat → Nat} (hst : ∀ j, j < V.m → st j < V.s) (t : Nat) {u : Nat} (hu : u < V.n) : see V st t u < V.s := by
  unfold see
  split
  · exact dg_lt G.s1 _ _ _
  · rename_i h
    have h' : V.fb u = false := by simpa using h
    have := cw_lt hu h'
    rw [← G.hm] at this
    exact hst _ this
theorem see_ix {V : VP} (G : VG V) {st : Nat → Nat} (hst : ∀ j, j < V.m → st j < V.s) (t : Nat) : ix V.s (see V st t) V.n < V.s ^ V.n := ix_lt (fun _ hu => see_lt G hst t hu)
theorem tgt_lt {V : VP} (G : VG V) {st : Nat → Nat} (hst : ∀ j, j < V.m → st j < V.s) (t : Nat) {j : Nat} (hj : j < V.m) : ix V.s (see V st t) V.n * V.n + nth V.fb false V.n j < V.ln ∧ tgt V st t j < V.s := by
  have h1 := G.row (see_ix G hst t)
  have h2 := (G.cor hj).1
  have h3 : ix V.s (see V st t) V.n * V.n + nth V.fb false V.n j < V.ln := by omega
  exact ⟨h3, G.nxs _ h3⟩
theorem lie_see {V : VP} (G : VG V) {st : Nat → Nat} {t : Nat} {x : Nat → Nat} (hx : ∀ u, u < V.n → x u = see V st t u) {q : Nat} (hq : q < V.ml) : lie V x q = dg V.s V.ml t q := by
  unfold lie
  rw [hx _ (G.lia hq).1]
  unfold see
  rw [if_pos (G.lia hq).2, G.lrank hq]
theorem see_next {V : VP} (G : VG V) {st : Nat → Nat} {t : Nat} {x x' : Nat → Nat} (ht : t < V.s ^ V.ml) (hx : ∀ u, u < V.n → x u = see V st t u) (hs : ∀ u, u < V.n → x' u < V.s) (hc : ∀ u, V.fb u = false → x' u = x u)
    (hl : ix V.s (lie V x') V.ml = ix V.s (lie V x) V.ml + 1) : t + 1 < V.s ^ V.ml ∧ ∀ u, u < V.n → x' u = see V st (t + 1) u := by
  have h1 : ix V.s (lie V x) V.ml = t := by rw [ix_congr (fun q hq => lie_see G hx hq), ix_dg G.s1 ht]
  rw [h1] at hl
  have h2 : ∀ q, q < V.ml → lie V x' q < V.s := fun q hq => hs _ (G.lia hq).1
  refine ⟨by rw [← hl]; exact ix_lt h2, fun u hu => ?_⟩
  unfold see
  by_cases e : V.fb u = true
  · rw [if_pos e]
    have h3 := cw_lt hu e
    rw [← G.hml] at h3
    rw [← hl, dg_ix G.s1 h2 _ h3]
    unfold lie
    rw [nth_cw hu e]
  · have e' : V.fb u = false := by simpa using e
    rw [if_neg e, hc u e', hx u hu]
    unfold see
    rw [if_neg e]
theorem see_last {V : VP} (G : VG V) {st : Nat → Nat} {t : Nat} {x : Nat → Nat} (ht : t < V.s ^ V.ml) (hx : ∀ u, u < V.n → x u = see V st t u) (hl : ix V.s (lie V x) V.ml + 1 = V.s ^ V.ml) : t + 1 = V.s ^ V.ml := by
  have h1 : ix V.s (lie V x) V.ml = t := by rw [ix_congr (fun q hq => lie_see G hx hq), ix_dg G.s1 ht]
  rw [← hl, h1]

theorem bits_or_u16_nat (a b : Nat) (ha : a < 65536) (hb : b < 65536) : bits .or .u16 (a : Int) (b : Int) = ((a ||| b : Nat) : Int) := by
  have hx : a ||| b < 2 ^ 16 := Nat.or_lt_two_pow (by omega) (by omega)
  have h1 : (BitVec.ofInt 16 (a : Int)).toNat = a := by
    rw [BitVec.ofInt_natCast, BitVec.toNat_ofNat]; exact Nat.mod_eq_of_lt (by omega)
  have h2 : (BitVec.ofInt 16 (b : Int)).toNat = b := by
    rw [BitVec.ofInt_natCast, BitVec.toNat_ofNat]; exact Nat.mod_eq_of_lt (by omega)
  show IntKind.u16.wrap ((BitVec.ofInt 16 (a : Int) ||| BitVec.ofInt 16 (b : Int)).toNat : Int) = _
  rw [BitVec.toNat_or, h1, h2, wrap_u16]
  omega
theorem BitsOf.or {M : Nat} {P : Nat → Prop} (h : BitsOf M P) {b : Nat} (hb : b < 16) : BitsOf (M ||| 2 ^ b) (fun c => P c ∨ c = b) := by
  have h2 : 2 ^ b < 2 ^ 16 := Nat.pow_lt_pow_right (by omega) hb
  refine ⟨Nat.or_lt_two_pow (n := 16) h.1 h2, fun c => ?_⟩
  rw [Nat.testBit_or, Bool.or_eq_true, h.2 c, Nat.testBit_two_pow]
  simp [eq_comm]

theorem u16_pow {r : Nat} (h : r < 16) : IntKind.u16.wrap ((2 : Int) ^ r) = ((2 ^ r : Nat) : Int) := by
  have h2 : 2 ^ r < 2 ^ 16 := Nat.pow_lt_pow_right (by omega) h
  have e : ((2 : Int) ^ r) = ((2 ^ r : Nat) : Int) := by simp
  rw [e, wrap_u16]
  clear e
  generalize 2 ^ r = p at *
  omega
theorem dg_zero (s m j : Nat) : dg s m 0 j = 0 := by simp [dg]
theorem BitsOf.none (V : VP) (st : Nat → Nat) (j : Nat) : BitsOf 0 (Can V st 0 j) := ⟨by omega, fun b => by simp [Can]⟩
theorem VerAt.drewN {lo : Nat} {w : World} {V : VP} (h : VerAt lo w V) (n : Nat) : VerAt lo (w.drewN n) V := h.kp (S := []) ((Kp.refl _ _).drewN n) (by simp)

set_option maxHeartbeats 1600000 in
set_option maxRecDepth 100000 in
theorem successors_calls {lo : Nat} {V : VP} (G : VG V) (w : World) (hV : VerAt lo w V) (cb mb : Nat) (cf st : Nat → Nat) (F M0 : Nat → Value) (hmb : lo ≤ mb) (hms : mb ≠ V.sb) (hcm : cb ≠ mb)
    (hst : ∀ j, j < V.m → st j < V.s) (hcf : ∀ u, u < V.n → V.fb u = false → cf u = st (cw V.fb false u)) (hr : DRow w cb V.n cf) (hs : Row w V.sb 3 V.n F) (hM : Row w mb 72 V.m M0) :
    Calls Tryd.prog 31 #[.pointer (some ⟨V.vb, 0, none⟩), .slice (some ⟨cb, 0, none⟩) V.n V.n, .slice (some ⟨mb, 0, none⟩) V.m V.m] w fun e w' => e = .returned (.tuple #[]) ∧ ∃ M, MRow w' mb V.m M ∧ (∀ j, j < V.m → BitsOf (M j) (Can V st (V.s ^ V.ml) j)) ∧ (∃ F', Row w' V.sb 3 V.n F') ∧ Kp [V.sb, mb] w w' := by
  have hn := G.n2
  have hmln := G.mln
  have hmn := G.mn
  have hm1 := G.m1
  have hs1 := G.s1
  have hs2 := G.s2
  have hln := G.ln2
  have hclr : ∀ ty, (Builtin.clear_ #[64] ty #[.slice (some ⟨mb, 0, none⟩) V.m V.m]).run Tryd.prog w = .ok (.tuple #[]) (w.setCells mb 0 (List.replicate V.m (.int .u16 0))) :=
    fun ty => Lib.run_clear_slice w 64 72 ty (.int .u16 0) Tryd.underlying64 Tryd.zeroValue72 rfl rfl mb 0 V.m V.m hm1 (fun j hj => by rw [Nat.zero_add, hM.cell hj]; rfl) (fun j hj => by rw [Nat.zero_add]; exact hM.frozen j)
  have HM1 : Hid (MRow (w.setCells mb 0 (List.replicate V.m (.int .u16 0))) mb V.m (fun _ => 0)) := (Row.setCells _ V.m 0 w _ (by omega) hM).congr (fun j hj => by rw [if_pos (by omega)]; rfl)
  have HK1 := hid (Kp.setCells mb (List.replicate V.m (.int .u16 0)) 0 w)
  obtain ⟨w1, hw1⟩ : ∃ w1, w1 = w.setCells mb 0 (List.replicate V.m (.int .u16 0)) := ⟨_, rfl⟩
  rw [← hw1] at HM1 HK1
  rw [← hw1] at hclr
  clear hw1
  have HK1' := hid (HK1.out.weaken (S' := [V.sb, mb]) (by simp))
  have HV0 := hid hV
  have HV1 := hid (hV.kp HK1.out (by simpa using .inr hmb))
  have hs1' := hs.kp HK1.out (by simpa using Ne.symm hms)
  have hr1 : DRow w1 cb V.n cf := hr.kp HK1.out (by simpa using hcm)
  have HS1 := hid hs1'
  have HR1 := hid hr1
  have v4 := HV1.out.v4
  have v6 := HV1.out.v6
  have hvs : ¬ V.vb = V.sb := (hV.sep V.vb (by simp)).2
  have HST := hid hst
  have HCF := hid hcf
  clear hV hr hs hM hs1' hr1 hst hcf
  go_enter Tryd.func31, Tryd.ntmps31
  go_wp2_with (refine wpList_copy_row 3 Tryd.underlying29 (by kernel_rfl) V.sb V.n V.n cb 0 V.n rfl rfl _ (fun i => .int .i64 (cf i : Nat)) HS1.out (fun i h => by rw [Nat.zero_add]; exact HR1.out.cell h) (fun _ => rfl) ?_; intro w2 hr2 hk2 hs2'; have v42 := hk2.cell' v4 (by simpa using hvs))
  have HR2 := hid hr2
  have HK2 := hid (HK1'.out.trans (hk2.weaken (S' := [V.sb, mb]) (by simp)) (by simp))
  have HV2 := hid (HV1.out.kp hk2 (by simp))
  have HM2 : Hid (MRow w2 mb V.m (fun _ => 0)) := HM1.out.kp hk2 (by simpa using hms)
  clear hr2 hk2 hs2' HR1 HS1 HM1 HK1 HK1' v4 v6 hclr HV1
  go_loopw [7, 23] (fun _ i wr => ∃ k : Nat, k ≤ V.ml ∧ i = .int .i64 k ∧ DRow wr V.sb V.n (fun u => if V.fb u = true ∧ cw V.fb true u < k then 0 else cf u) ∧ Kp [V.sb] w2 wr) (fun _ i _ => V.ml - (intOf i).toNat)
  case atStart => exact ⟨0, by omega, rfl, HR2.out.congr (fun u hu => by simp), Kp.refl _ _⟩
  case round =>
    obtain ⟨k, hk, rfl, hr, hkp⟩ := hrel
    have HRr := hid hr
    have HK := hid hkp
    have HV3 := hid (HV2.out.kp hkp (by simp))
    by_cases hlt : k < V.ml
    · obtain ⟨u, hu⟩ : ∃ u, u = nth V.fb true V.n k := ⟨_, rfl⟩
      have hun := G.lia hlt
      have hur := G.lrank hlt
      have hlj := ((HV3.out.liars (by omega)).2 k hlt)
      have hla := (HV3.out.liars (by omega)).1
      rw [← hu] at hun hur hlj
      have hcu := hr.cell hun.1
      have hfu := hr.frozen u
      have v6 := HV3.out.v6
      have hun1 := hun.1
      have hfb := hun.2
      have HU := hid hu
      clear hr hkp hu hun
      rw [hla]
      go_wp2
      go_roundw
      case rel =>
        refine ⟨k + 1, by omega, by go_num, (HRr.out.set u _).congr (fun v hv => ?_), HK.out.setCell (.inl (by simp)) _⟩
        dsimp only
        by_cases e : v = u
        · subst e
          simp [hfb, hur]
        · by_cases hv2 : V.fb v = true
          · have hne : cw V.fb true v ≠ k := fun e2 => e (by rw [HU.out, ← e2]; exact (nth_cw hv hv2).symm)
            have hiff : (cw V.fb true v < k + 1) ↔ (cw V.fb true v < k) := by omega
            simp [e, hiff]
          · simp [e, hv2]
      case measure => simp [intOf]; omega
    · obtain rfl : V.ml = k := by omega
      have v0 := HV3.out.v0
      have v6 := HV3.out.v6
      have R0 : Hid (DRow wr V.sb V.n (see V st 0)) := hr.congr (fun u hu => by
        dsimp only
        unfold see
        by_cases e : V.fb u = true
        · have h1 := cw_lt hu e
          rw [← G.hml] at h1
          rw [if_pos ⟨e, h1⟩, if_pos e, dg_zero]
        · have e' : V.fb u = false := by simpa using e
          rw [if_neg (fun h => e h.1), if_neg e, HCF.out u hu e'])
      have M0' : Hid (MRow wr mb V.m (fun _ => 0)) := HM2.out.kp hkp (by simpa using hms)
      have K0 : Hid (Kp [V.sb, mb] w wr) := HK2.out.trans hkp (by simp)
      clear hr hkp HRr HK HM2 HR2 HK2 HV2 HV3 HCF v42
      go_wp2
      go_loopg [8] (V.s ^ V.ml) (fun gk _ wr => ∃ (t : Nat) (x M : Nat → Nat), t < V.s ^ V.ml ∧ gk = V.s ^ V.ml - t ∧ DRow wr V.sb V.n x ∧ (∀ u, u < V.n → x u = see V st t u) ∧ MRow wr mb V.m M ∧ (∀ j, j < V.m → BitsOf (M j) (Can V st t j)) ∧ Kp [V.sb, mb] w wr)
      case atStart => exact ⟨0, _, _, Nat.pow_pos hs1, rfl, R0.out, fun _ _ => rfl, M0'.out, fun j hj => BitsOf.none V st j, K0.out⟩
      case round =>
        clear R0 M0' K0
        obtain ⟨t, x, M, ht, hgk, hr, hx, hm, hb, hkp⟩ := hrel
        have HGK := hid hgk
        have HT := hid ht
        have HX := hid hx
        have HRr := hid hr
        have HMr := hid hm
        have HB := hid hb
        have HK := hid hkp
        have HVr := hid (HV0.out.kp hkp (by simp [hmb]))
        have HXs : Hid (∀ u, u < V.n → x u < V.s) := fun u hu => by rw [hx u hu]; exact see_lt G HST.out t hu
        have v0 := HVr.out.v0
        have v6 := HVr.out.v6
        have v3 := HVr.out.v3
        have eix : ix V.s x V.n = ix V.s (see V st t) V.n := ix_congr hx
        obtain ⟨q, hq⟩ : ∃ q, q = ix V.s x V.n := ⟨_, rfl⟩
        have HQ := hid hq
        have HQ2 : Hid (q = ix V.s (see V st t) V.n) := hq.trans eix
        clear ht hgk hr hx hm hb hkp hq eix
        go_wp2_with fail
        go_quiet ((go_at_call 32; exact Calls.quiet_of (nextStates_calls G _ (HVr.out.drewN _) x HXs.out HRr.out)))
        rw [← HQ.out]
        go_wp2
        go_loopw [9, 10, 48] (fun _ _ i wq => ∃ k : Nat, k ≤ V.m ∧ i = .int .i64 k ∧ MRow wq mb V.m (fun j => if j < k then M j ||| 2 ^ tgt V st t j else M j) ∧ Kp [mb] wr wq) (fun _ _ i _ => V.m - (intOf i).toNat)
        case atStart => exact ⟨0, by omega, rfl, HMr.out.congr (fun j hj => by simp), (Kp.refl _ _).drewN _⟩
        case round =>
          obtain ⟨k, hk, rfl, hmq, hkq⟩ := hrel
          have HMq := hid hmq
          have HKq := hid hkq
          have HVq := hid (HVr.out.kp hkq (by simp [hmb]))
          by_cases hlt : k < V.m
          · have hT := tgt_lt G HST.out t hlt
            have hck := HVq.out.correct k hlt
            have hun := (G.cor hlt).1
            have hB := HB.out k hlt
            rw [← HQ2.out] at hT
            have hnx := HVq.out.next _ hT.1
            have htg : V.nx (q * V.n + nth V.fb false V.n k) = tgt V st t k := by rw [HQ2.out]; rfl
            rw [htg] at hnx
            have hT1 := hT.1
            have hT2 := hT.2
            have hB1 := hB.1
            have hcm' := hmq.cell hlt
            have hfm := hmq.frozen k
            simp only [show ¬ k < k by omega, if_false] at hcm'
            have HOr := hid (bits_or_u16_nat (M k) (2 ^ tgt V st t k) hB1 (Nat.pow_lt_pow_right (n := 16) (by omega) (by omega)))
            generalize hr' : tgt V st t k = r at *
            generalize hu' : nth V.fb false V.n k = u at *
            generalize hmk : M k = mk at *
            have hm0 : (0 : Int) ≤ (q : Int) * (V.n : Int) := by rw [← Int.natCast_mul]; omega
            have hm1 : (q : Int) * (V.n : Int) + (u : Int) < V.ln := by rw [← Int.natCast_mul]; omega
            have HR' := hid hr'
            have HMK := hid hmk
            clear hmq hkq hT hB htg hr' hu' hmk
            go_wp2
            go_region
            all_goals go_wp2
            have e1 : bits BinOp.or IntKind.u16 (mk : Int) (IntKind.u16.wrap ((2 : Int) ^ r)) = ((mk ||| 2 ^ r : Nat) : Int) := by
              rw [u16_pow (by omega)]; exact HOr.out
            rw [e1]
            refine ⟨⟨k + 1, by omega, by go_num, (HMq.out.set k _).congr (fun j hj => ?_), (HKq.out.setCell (.inl (by simp)) _).drew⟩, by simp [intOf]; omega⟩
            dsimp only
            by_cases e : j = k
            · subst e
              simp [HMK.out, HR'.out]
            · by_cases e2 : j < k
              · have e3 : j < k + 1 := by omega
                simp [e, e2, e3]
              · have e3 : ¬ j < k + 1 := by omega
                simp [e, e2, e3]
          · obtain rfl : V.m = k := by omega
            have HMn : Hid (MRow wr mb V.m (fun j => M j ||| 2 ^ tgt V st t j)) := hmq.congr (fun j hj => by simp [hj])
            have HBn : Hid (∀ j, j < V.m → BitsOf (M j ||| 2 ^ tgt V st t j) (Can V st (t + 1) j)) := fun j hj => by
              have h1 := (HB.out j hj).or (b := tgt V st t j) (by have := (tgt_lt G HST.out t hj).2; omega)
              refine ⟨h1.1, fun c => ?_⟩
              rw [h1.2 c]
              constructor
              · rintro (⟨t', h2, h3⟩ | h2)
                · exact ⟨t', by omega, h3⟩
                · exact ⟨t, by omega, h2.symm⟩
              · rintro ⟨t', h2, h3⟩
                by_cases e : t' = t
                · subst e; exact .inr h3.symm
                · exact .inl ⟨t', by omega, h3⟩
            have HKn := hid (HK.out.trans hkq (by simp))
            have HRn : Hid (DRow wr V.sb V.n x) := HRr.out.kp hkq (by simpa using Ne.symm hms)
            clear hmq hkq
            go_wp2_with fail
            refine (nextLies_calls G wr HVq.out x HXs.out HRn.out).mono ?_
            rintro e w3 ⟨β, x', rfl, hr3, hx3, hc3, hl3, hf3, hk3⟩
            have HM3 : Hid (MRow w3 mb V.m (fun j => M j ||| 2 ^ tgt V st t j)) := HMn.out.kp hk3 (by simpa using hms)
            have HK3 := hid (HKn.out.trans hk3 (by simp))
            have HR3 := hid hr3
            have HX3 := hid hx3
            have HC3 := hid hc3
            have HL3 := hid hl3
            have HF3 := hid hf3
            clear hr3 hx3 hc3 hl3 hf3 hk3
            cases β
            · go_wp2
              refine bodyPost_ret (results_none rfl _ _ _) rfl ?_
              have hlast := see_last G HT.out HX.out (HF3.out (by simp))
              refine ⟨rfl, _, HM3.out, ?_, ⟨_, HR3.out⟩, HK3.out⟩
              rw [← hlast]
              exact HBn.out
            · go_wp2
              have hnx := see_next G HT.out HX.out HX3.out HC3.out (HL3.out (by simp))
              go_roundg (V.s ^ V.ml - (t + 1))
              case measure => rw [HGK.out]; have := hnx.1; omega
              case rel => exact ⟨t + 1, x', _, hnx.1, rfl, HR3.out, hnx.2, HM3.out, HBn.out, HK3.out⟩
end Go.Proofs.Qxb6615056aDoor

/-
  Agreed, countedValue.
-/
import Derived.Test.Qxb6615056aDoorSucc
namespace Go.Proofs.Qxb6615056aDoor
open Go.RowKit Go.Tocsin

/-- The correct nodes agree on a state below the modulus. -/
def goodD (V : VP) (st : Nat → Nat) : Bool := decide ((∀ j, j < V.m → st j = st 0) ∧ ((st 0 : Nat) : Int) < V.md)
/-- They agree. -/
def agr (V : VP) (st : Nat → Nat) : Bool := decide (∀ j, j < V.m → st j = st 0)
def agv (V : VP) (st : Nat → Nat) : Int := if agr V st then (st 0 : Nat) else -1
theorem goodD_eq (V : VP) (st : Nat → Nat) : goodD V st = (agr V st && decide (((st 0 : Nat) : Int) < V.md)) := by
  unfold goodD agr
  rw [Bool.decide_and]
def vl (V : VP) (st : Nat → Nat) (k : Nat) : Int := if cw V.fb false k = 0 then -1 else (st 0 : Nat)

set_option maxHeartbeats 1600000 in
set_option maxRecDepth 100000 in
theorem agreed_calls {lo : Nat} {V : VP} (G : VG V) (w : World) (hV : VerAt lo w V) (cb : Nat) (cf st : Nat → Nat) (hcf : ∀ u, u < V.n → V.fb u = false → cf u = st (cw V.fb false u)) (hr : DRow w cb V.n cf) :
    Calls Tryd.prog 27 #[.slice (some ⟨cb, 0, none⟩) V.n V.n, .slice (some ⟨V.fk, 0, none⟩) V.n V.n] w fun e w' => e = .returned (.tuple #[.int .i64 (agv V st), .bool (agr V st)]) ∧ w' = w := by
  have hn := G.n2
  have HR : Hid (∀ i, i < V.n → w.cell? ⟨cb, i, none⟩ = some (.int .i64 (cf i : Nat))) := fun i hi => hr.cell hi
  have HF := hid hV.faulty
  have HC := hid hcf
  clear hV hr hcf
  go_enter Tryd.func27, Tryd.ntmps27
  go_wp2
  go_loop [4, 5, 6, 7, 10] (fun a b _ _ i => ∃ k : Nat, k ≤ V.n ∧ i = .int .i64 k ∧ a = .int .i64 (vl V st k) ∧ b = .bool false ∧ (∀ j, j < cw V.fb false k → st j = st 0)) (fun _ _ _ _ i => V.n - (intOf i).toNat)
  case atStart => exact ⟨0, by omega, rfl, rfl, rfl, fun j hj => by simp [cw] at hj⟩
  case round =>
    obtain ⟨k, hk, rfl, rfl, rfl, hall⟩ := hrel
    have HA := hid hall
    clear hall
    by_cases hlt : k < V.n
    · have hck := HR.out k hlt
      have hfk := HF.out k hlt
      cases hb : V.fb k
      · rw [hb] at hfk
        have e1 : cw V.fb false (k + 1) = cw V.fb false k + 1 := by simp [cw, hb]
        have e2 := HC.out k hlt hb
        have hcl := cw_lt hlt hb
        rw [← G.hm] at hcl
        rw [e2] at hck
        have e3 : vl V st (k + 1) = (st 0 : Nat) := by unfold vl; rw [e1, if_neg (by omega)]
        have HE := hid (And.intro e1 e3)
        generalize hrr : cw V.fb false k = r at *
        by_cases hr0 : r = 0
        · subst hr0
          have hv : vl V st k = -1 := by unfold vl; rw [hrr, if_pos rfl]
          rw [hv]
          have ht : (((st 0 : Nat) : Int) == -1) = false := by simp
          clear hb e1 e2 e3 hrr hcl hv
          go_wp2
          go_round
          case rel =>
            refine ⟨k + 1, by omega, by go_num, by rw [HE.out.2], rfl, fun j hj => ?_⟩
            rw [HE.out.1] at hj
            rw [show j = 0 by omega]
          case measure => simp [intOf]; omega
        · have hv : vl V st k = (st 0 : Nat) := by unfold vl; rw [hrr, if_neg hr0]
          rw [hv]
          by_cases heq : st r = st 0
          · have ht : (((st r : Nat) : Int) == ((st 0 : Nat) : Int)) = true := by simp [heq]
            have HQ := hid heq
            clear hb e1 e2 e3 hrr hcl hv heq
            go_wp2
            go_round
            case rel =>
              refine ⟨k + 1, by omega, by go_num, by rw [HE.out.2], rfl, fun j hj => ?_⟩
              rw [HE.out.1] at hj
              by_cases e : j = r
              · rw [e]; exact HQ.out
              · exact HA.out j (by omega)
            case measure => simp [intOf]; omega
          · have ht : (((st r : Nat) : Int) == ((st 0 : Nat) : Int)) = false := by simp; omega
            have ht2 : (((st 0 : Nat) : Int) != -1) = true := by simp
            have HQ : Hid (agr V st = false) := by
              show agr V st = false
              unfold agr
              exact decide_eq_false (fun h => heq (h r hcl))
            clear hb e1 e2 e3 hrr hcl hv heq
            go_wp2
            go_ret2
            exact ⟨by unfold agv; rw [HQ.out]; rfl, rfl⟩
      · rw [hb] at hfk
        have e1 : cw V.fb false (k + 1) = cw V.fb false k := by simp [cw, hb]
        have e3 : vl V st (k + 1) = vl V st k := by unfold vl; rw [e1]
        have HE := hid (And.intro e1 e3)
        clear hb e1 e3
        by_cases ht : (((cf k : Nat) : Int) == vl V st k) = true
        · go_wp2
          go_round
          case rel => exact ⟨k + 1, by omega, by go_num, by rw [HE.out.2], rfl, by rw [HE.out.1]; exact HA.out⟩
          case measure => simp [intOf]; omega
        · have ht' : (((cf k : Nat) : Int) == vl V st k) = false := by simpa using ht
          clear ht
          go_wp2
          go_round
          case rel => exact ⟨k + 1, by omega, by go_num, by rw [HE.out.2], rfl, by rw [HE.out.1]; exact HA.out⟩
          case measure => simp [intOf]; omega
    · obtain rfl : V.n = k := by omega
      have hm1 := G.m1
      have hv : vl V st V.n = (st 0 : Nat) := by unfold vl; rw [← G.hm, if_neg (by omega)]
      rw [hv]
      have ht2 : (((st 0 : Nat) : Int) != -1) = true := by simp
      have HQ : Hid (agr V st = true) := by
        show agr V st = true
        unfold agr
        exact decide_eq_true (fun j hj => HA.out j (by rw [← G.hm]; exact hj))
      clear hv
      go_wp2
      go_ret2
      exact ⟨by unfold agv; rw [HQ.out]; rfl, rfl⟩

set_option maxHeartbeats 1600000 in
set_option maxRecDepth 100000 in
theorem counted_calls {lo : Nat} {V : VP} (G : VG V) (w : World) (hV : VerAt lo w V) (cb : Nat) (cf st : Nat → Nat) (hcf : ∀ u, u < V.n → V.fb u = false → cf u = st (cw V.fb false u)) (hr : DRow w cb V.n cf) :
    Calls Tryd.prog 22 #[.slice (some ⟨cb, 0, none⟩) V.n V.n, .slice (some ⟨V.fk, 0, none⟩) V.n V.n, .int .i64 V.md] w fun e w' => e = .returned (.tuple #[.int .i64 (agv V st), .bool (goodD V st)]) ∧ w' = w := by
  have HA := hid (agreed_calls G w hV cb cf st hcf hr)
  have HG := hid (goodD_eq V st)
  clear hV hcf hr
  go_enter Tryd.func22, Tryd.ntmps22
  go_wp2_with fail
  refine HA.out.mono ?_
  rintro e w1 ⟨rfl, hw⟩
  subst hw
  cases hb : agr V st
  · rw [hb] at HG
    clear hb
    go_wp2
    go_ret2
    exact ⟨by rw [HG.out]; rfl, rfl⟩
  · rw [hb] at HG
    have hv : agv V st = (st 0 : Nat) := by unfold agv; rw [hb]; rfl
    rw [hv]
    have HV' := hid hv
    clear hb hv
    by_cases hl : ((st 0 : Nat) : Int) < V.md
    · go_wp2
      go_ret2
      exact ⟨by rw [HG.out, HV'.out, decide_eq_true (by omega)]; rfl, rfl⟩
    · go_wp2
      go_ret2
      exact ⟨by rw [HG.out, HV'.out, decide_eq_false (by omega)]; rfl, rfl⟩
end Go.Proofs.Qxb6615056aDoor

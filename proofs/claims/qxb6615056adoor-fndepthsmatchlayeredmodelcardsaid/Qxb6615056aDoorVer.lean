/-
  THE VERIFICATION IN MEMORY; States, index, increment.
-/
import Derived.Test.Qxb6615056aDoorTz
import Derived.Test.Qxb6615056aDoorPlain
import Derived.Test.Qxb6615056aDoorDigits
namespace Go.Proofs.Qxb6615056aDoor
open Go.RowKit Go.Tocsin

/-- What a Verification holds, and where. -/
structure VP where
  vb : Nat
  tb : Nat
  nb : Nat
  fk : Nat
  kb : Nat
  sb : Nat
  lb : Nat
  lc : Nat
  n : Nat
  s : Nat
  ln : Nat
  m : Nat
  ml : Nat
  C : Nat
  la : Option Addr
  md : Int
  nx : Nat → Nat
  fb : Nat → Bool

structure VG (V : VP) : Prop where
  n1 : 1 ≤ V.n
  n2 : V.n ≤ 1048576
  s1 : 1 ≤ V.s
  s2 : V.s ≤ 16
  ln2 : V.ln ≤ 1048576
  sh : V.s ^ V.n * V.n = V.ln
  nxs : ∀ i, i < V.ln → V.nx i < V.s
  hm : V.m = cw V.fb false V.n
  hml : V.ml = cw V.fb true V.n
  hC : V.C = V.s ^ V.m
  C2 : V.C ≤ 256
  m1 : 1 ≤ V.m

theorem VG.mn {V : VP} (G : VG V) : V.m ≤ V.n := by rw [G.hm]; exact cw_le _
theorem VG.mln {V : VP} (G : VG V) : V.ml ≤ V.n := by rw [G.hml]; exact cw_le _
theorem VG.cor {V : VP} (G : VG V) {j : Nat} (hj : j < V.m) : nth V.fb false V.n j < V.n ∧ V.fb (nth V.fb false V.n j) = false := nth_lt (by rw [← G.hm]; exact hj)
theorem VG.lia {V : VP} (G : VG V) {j : Nat} (hj : j < V.ml) : nth V.fb true V.n j < V.n ∧ V.fb (nth V.fb true V.n j) = true := nth_lt (by rw [← G.hml]; exact hj)

/-- The Verification lies so in w; what it never writes lies below lo. -/
structure VerAt (lo : Nat) (w : World) (V : VP) : Prop where
  v0 : w.cell? ⟨V.vb, 0, none⟩ = some (.pointer (some ⟨V.tb, 0, none⟩))
  v1 : w.cell? ⟨V.vb, 1, none⟩ = some (.slice (some ⟨V.fk, 0, none⟩) V.n V.n)
  v2 : w.cell? ⟨V.vb, 2, none⟩ = some (.int .i64 V.md)
  v3 : w.cell? ⟨V.vb, 3, none⟩ = some (.slice (some ⟨V.kb, 0, none⟩) V.m V.m)
  v4 : w.cell? ⟨V.vb, 4, none⟩ = some (.slice V.la V.ml V.lc)
  v5 : w.cell? ⟨V.vb, 5, none⟩ = some (.int .i64 V.C)
  v6 : w.cell? ⟨V.vb, 6, none⟩ = some (.slice (some ⟨V.sb, 0, none⟩) V.n V.n)
  t0 : w.cell? ⟨V.tb, 0, none⟩ = some (.int .i64 V.n)
  t1 : w.cell? ⟨V.tb, 1, none⟩ = some (.int .i64 V.s)
  t2 : w.cell? ⟨V.tb, 2, none⟩ = some (.slice (some ⟨V.nb, 0, none⟩) V.ln V.ln)
  next : ∀ i, i < V.ln → w.cell? ⟨V.nb, i, none⟩ = some (.int .u8 (V.nx i : Nat))
  faulty : ∀ i, i < V.n → w.cell? ⟨V.fk, i, none⟩ = some (.bool (V.fb i))
  correct : ∀ i, i < V.m → w.cell? ⟨V.kb, i, none⟩ = some (.int .i64 (nth V.fb false V.n i : Nat))
  liars : 0 < V.ml → V.la = some ⟨V.lb, 0, none⟩ ∧ ∀ i, i < V.ml → w.cell? ⟨V.lb, i, none⟩ = some (.int .i64 (nth V.fb true V.n i : Nat))
  tab : TabAt w
  sep : ∀ b ∈ [0, V.vb, V.tb, V.nb, V.fk, V.kb, V.lb], b < lo ∧ b ≠ V.sb

theorem VerAt.kp {lo : Nat} {w w' : World} {V : VP} {S : List Nat} (h : VerAt lo w V) (k : Kp S w w') (hS : ∀ b ∈ S, b = V.sb ∨ lo ≤ b) : VerAt lo w' V := by
  have hn : ∀ b ∈ [0, V.vb, V.tb, V.nb, V.fk, V.kb, V.lb], b ∉ S := fun b hb hbs => by
    have h1 := h.sep b hb
    rcases hS b hbs with e | e
    · exact h1.2 e
    · omega
  exact ⟨k.cell' h.v0 (hn _ (by simp)), k.cell' h.v1 (hn _ (by simp)), k.cell' h.v2 (hn _ (by simp)), k.cell' h.v3 (hn _ (by simp)), k.cell' h.v4 (hn _ (by simp)), k.cell' h.v5 (hn _ (by simp)), k.cell' h.v6 (hn _ (by simp)),
    k.cell' h.t0 (hn _ (by simp)), k.cell' h.t1 (hn _ (by simp)), k.cell' h.t2 (hn _ (by simp)),
    fun i hi => k.cell' (h.next i hi) (hn _ (by simp)), fun i hi => k.cell' (h.faulty i hi) (hn _ (by simp)), fun i hi => k.cell' (h.correct i hi) (hn _ (by simp)),
    fun h0 => ⟨(h.liars h0).1, fun i hi => k.cell' ((h.liars h0).2 i hi) (hn _ (by simp))⟩, h.tab.kp k (hn _ (by simp)), h.sep⟩

theorem VerAt.drew {lo : Nat} {w : World} {V : VP} (h : VerAt lo w V) : VerAt lo w.drew V := h.kp (S := []) (Kp.refl _ _).drew (by simp)

/-- A row of digits. -/
def DRow (w : World) (g m : Nat) (d : Nat → Nat) : Prop := Row w g 3 m (fun i => .int .i64 (d i : Nat))

set_option maxHeartbeats 400000 in
set_option maxRecDepth 100000 in
theorem states_calls (tb s : Nat) (w : World) (h1 : w.cell? ⟨tb, 1, none⟩ = some (.int .i64 s)) : Calls Tryd.prog 28 #[.pointer (some ⟨tb, 0, none⟩)] w fun e w' => e = .returned (.int .i64 s) ∧ w' = w := by
  go_enter Tryd.func28, Tryd.ntmps28
  go_wp2
  go_ret
  exact ⟨rfl, rfl⟩

set_option maxHeartbeats 800000 in
set_option maxRecDepth 100000 in
theorem index_calls {lo : Nat} {V : VP} (G : VG V) (w : World) (hV : VerAt lo w V) (g c : Nat) (d : Nat → Nat) (hd : ∀ j, j < V.m → d j < V.s) (hr : DRow w g V.m d) :
    Calls Tryd.prog 25 #[.pointer (some ⟨V.vb, 0, none⟩), .slice (some ⟨g, 0, none⟩) V.m c] w fun e w' => e = .returned (.int .i64 (ix V.s d V.m : Nat)) ∧ w' = w := by
  have hmn : V.m ≤ 1048576 := Nat.le_trans G.mn G.n2
  have HP : Hid (∀ k, k ≤ V.m → ix V.s d k < 256) := by
    intro k hk
    have h1 := ix_lt (s := V.s) (d := d) (m := k) (fun j hj => hd j (by omega))
    have h2 : V.s ^ k ≤ V.s ^ V.m := Nat.pow_le_pow_right G.s1 hk
    have h3 := G.hC
    have h4 := G.C2
    omega
  have HSt := hid (states_calls V.tb V.s w hV.t1)
  have hs1 := G.s1
  have hs2 := G.s2
  have h0 := hV.v0
  have HR : Hid (∀ i, i < V.m → w.cell? ⟨g, i, none⟩ = some (.int .i64 (d i : Nat))) := fun i hi => hr.cell hi
  have HD := hid hd
  clear hV hr hd
  go_enter Tryd.func25, Tryd.ntmps25
  go_wp2
  go_loop [5, 7, 10] (fun a _ i => ∃ k : Nat, k ≤ V.m ∧ i = .int .i64 k ∧ a = .int .i64 (ix V.s d k : Nat)) (fun _ _ i => V.m - (intOf i).toNat)
  case atStart => exact ⟨0, by omega, rfl, rfl⟩
  case round =>
    obtain ⟨k, hk, rfl, rfl⟩ := hrel
    by_cases hlt : k < V.m
    · have hck := HR.out k hlt
      have hdk := HD.out k hlt
      have hb0 := HP.out k hk
      have hb1 := HP.out (k + 1) (by omega)
      have e1 : ix V.s d (k + 1) = ix V.s d k * V.s + d k := rfl
      rw [e1] at hb1
      clear e1
      generalize hq : ix V.s d k = q at *
      have HQ := hid hq
      clear hq
      have hm0 : (0 : Int) ≤ (q : Int) * (V.s : Int) := by rw [← Int.natCast_mul]; omega
      have hm1 : (q : Int) * (V.s : Int) ≤ 4096 := by rw [← Int.natCast_mul]; omega
      clear hb1
      go_wp2_with (first | (go_at_call 28; refine HSt.out.mono ?_; rintro e w1 ⟨rfl, rfl⟩))
      go_round
      case rel => exact ⟨k + 1, by omega, by go_num, by show _ = Value.int .i64 ((ix V.s d k * V.s + d k : Nat) : Int); rw [HQ.out, Int.natCast_add, Int.natCast_mul]⟩
      case measure => simp [intOf]; omega
    · obtain rfl : V.m = k := by omega
      go_wp2
      go_ret
      exact ⟨rfl, rfl⟩

/-- The number behind i, round again. -/
def nxt (C i : Nat) : Nat := if i + 1 = C then 0 else i + 1

theorem bump_zero {d : Nat → Nat} {j x : Nat} (i : Nat) : bump d (fun _ => 0) j x i = if i = j then x else if i < j + 1 then d i else 0 := by
  unfold bump
  by_cases h1 : i < j
  · have h2 : ¬ i = j := by omega
    have h3 : i < j + 1 := by omega
    simp [h1, h2, h3]
  · by_cases h2 : i = j
    · simp [h2]
    · have h3 : ¬ i < j + 1 := by omega
      simp [h1, h2, h3]

theorem ix_top {s : Nat} {d : Nat → Nat} (hs : 0 < s) : ∀ {m : Nat}, (∀ q, q < m → d q = s - 1) → ix s d m + 1 = s ^ m
  | 0, _ => by simp [ix]
  | m + 1, h => by
    have ih := ix_top hs (m := m) (fun q hq => h q (by omega))
    simp only [ix]
    rw [h m (by omega), Nat.pow_succ, ← ih, Nat.add_mul, Nat.one_mul]
    omega

set_option maxHeartbeats 1600000 in
set_option maxRecDepth 100000 in
theorem increment_calls {lo : Nat} {V : VP} (G : VG V) (w : World) (hV : VerAt lo w V) (g c : Nat) (hg : lo ≤ g) (d : Nat → Nat) (hd : ∀ j, j < V.m → d j < V.s) (hr : DRow w g V.m d) :
    Calls Tryd.prog 23 #[.pointer (some ⟨V.vb, 0, none⟩), .slice (some ⟨g, 0, none⟩) V.m c] w fun e w' => e = .returned (.tuple #[]) ∧ ∃ d', DRow w' g V.m d' ∧ (∀ j, j < V.m → d' j < V.s) ∧ ix V.s d' V.m = nxt V.C (ix V.s d V.m) ∧ Kp [g] w w' := by
  have hmn : V.m ≤ 1048576 := Nat.le_trans G.mn G.n2
  have hs1 := G.s1
  have hs2 := G.s2
  have HV := hid hV
  have HR := hid hr
  have HD := hid hd
  have hvb : ¬ V.vb = g := by have := (hV.sep V.vb (by simp)).1; omega
  clear hV hr hd
  go_enter Tryd.func23, Tryd.ntmps23
  go_wp2
  go_loopw [4] (fun i wr => ∃ k : Nat, k ≤ V.m ∧ i = .int .i64 ((k : Int) - 1) ∧ DRow wr g V.m (fun q => if q < k then d q else 0) ∧ (∀ q, k ≤ q → q < V.m → d q = V.s - 1) ∧ Kp [g] w wr) (fun i _ => (intOf i + 1).toNat)
  case atStart => exact ⟨V.m, by omega, by go_num, HR.out.congr (fun q hq => by simp [hq]), fun q h1 h2 => by omega, Kp.refl _ _⟩
  case round =>
    obtain ⟨k, hk, rfl, hr, ht, hkp⟩ := hrel
    have HRr := hid hr
    have HT := hid ht
    have HK := hid hkp
    by_cases h0 : k = 0
    · subst h0
      clear hr ht hkp
      go_wp2
      go_end0
      refine ⟨rfl, fun _ => 0, HRr.out.congr (fun q hq => by simp), fun j _ => hs1, ?_, HK.out⟩
      rw [ix_zero, nxt, if_pos]
      rw [ix_top hs1 (fun q hq => HT.out q (by omega) hq), G.hC]
    · obtain ⟨j, rfl⟩ : ∃ j, k = j + 1 := ⟨k - 1, by omega⟩
      have hdj := HD.out j (by omega)
      have hcj := hr.cell (i := j) (by omega)
      have hfj := hr.frozen j
      simp only [show j < j + 1 by omega, if_true] at hcj
      have HV2 := hid (HV.out.kp (HK.out.trans (Kp.set wr g j (.int .i64 ((d j : Int) + 1))) (by simp)) (by simp; omega))
      have hv0 := HV2.out.v0
      clear hr ht hkp
      go_wp2_with fail
      have hcl : (wr.setCell ⟨g, j, none⟩ (.int .i64 ((d j : Int) + 1))).cell? ⟨g, j, none⟩ = some (.int .i64 ((d j : Int) + 1)) := by
        have := (HRr.out.set j (.int .i64 ((d j : Int) + 1))).cell (i := j) (by omega)
        simpa using this
      have hvl : (wr.setCell ⟨g, j, none⟩ (.int .i64 ((d j : Int) + 1))).cell? ⟨V.vb, 0, none⟩ = some (.pointer (some ⟨V.tb, 0, none⟩)) := HV2.out.v0
      by_cases hlt : (d j : Int) + 1 < V.s
      · go_quiet ((go_at_call 28; exact Calls.quiet_of_same (states_calls V.tb V.s _ HV2.out.t1)))
        go_wp2
        refine bodyPost_ret (results_none rfl _ _ _) rfl ?_
        have hN : Prod' V.s V.m (fun _ _ => True) (bump d (fun _ => 0) j (d j + 1)) := bump_prod (fun q hq => ⟨HD.out q hq, trivial⟩) (fun q hq => ⟨hs1, trivial⟩) (by omega) trivial
        have hI := ix_inc (d := d) hs1 (show j < V.m by omega) (fun q h1 h2 => HT.out q (by omega) h2)
        have hL := ix_lt (fun q hq => (hN q hq).1)
        rw [hI, ← G.hC] at hL
        refine ⟨rfl, bump d (fun _ => 0) j (d j + 1), (HRr.out.set j _).congr (fun q hq => ?_), fun q hq => (hN q hq).1, ?_, (HK.out.trans (Kp.set wr g j _) (by simp)).drewN _⟩
        · rw [bump_zero]
          by_cases e : q = j <;> simp [e]
        · rw [hI, nxt, if_neg (by omega)]
      · go_quiet ((go_at_call 28; exact Calls.quiet_of_same (states_calls V.tb V.s _ HV2.out.t1)))
        go_wp2
        go_roundw
        case rel =>
          refine ⟨j, by omega, by go_num, ?_, fun q h1 h2 => ?_, ?_⟩
          · refine (((HRr.out.set j _).drewN _).set j _).congr (fun q hq => ?_)
            by_cases e : q = j
            · simp [e]
            · by_cases e2 : q < j
              · have e3 : q < j + 1 := by omega
                simp [e, e2, e3]
              · have e3 : ¬ q < j + 1 := by omega
                simp [e, e2, e3]
          · by_cases e : q = j
            · subst e; omega
            · exact HT.out q (by omega) h2
          · exact (((HK.out.trans (Kp.set wr g j _) (by simp)).drewN _).trans (Kp.set _ g j _) (by simp))
        case measure => simp [intOf]
end Go.Proofs.Qxb6615056aDoor

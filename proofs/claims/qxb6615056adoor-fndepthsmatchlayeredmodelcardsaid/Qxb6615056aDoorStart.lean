/-
  start: a frame for a configuration.
-/
import Derived.Test.Qxb6615056aDoorAdv
import Derived.Deep.Cut
namespace Go.Proofs.Qxb6615056aDoor
open Go.RowKit Go.Tocsin

/-- A place on the path: what its five cells hold; 'has': it bears its two rows. -/
structure Slot where
  ix : Int
  has : Bool
  gm : Nat
  gd : Nat
  more : Bool
  dep : Int

def mCell (m : Nat) (p : Slot) : Value := if p.has = true then .slice (some ⟨p.gm, 0, none⟩) m m else .slice none 0 0
def dCell (m : Nat) (p : Slot) : Value := if p.has = true then .slice (some ⟨p.gd, 0, none⟩) m m else .slice none 0 0
def frCell (m : Nat) (p : Slot) (k : Nat) : Value :=
  if k = 0 then .int .i64 p.ix else if k = 1 then mCell m p else if k = 2 then dCell m p else if k = 3 then .bool p.more else .int .i64 p.dep
def FRow (w : World) (pb cap m : Nat) (P : Nat → Slot) : Prop := Row w pb 66 (cap * 5) (fun c => frCell m (P (c / 5)) (c % 5))
def updS (P : Nat → Slot) (i : Nat) (p : Slot) : Nat → Slot := fun j => if j = i then p else P j
theorem updS_same (P : Nat → Slot) (i : Nat) (p : Slot) : updS P i p i = p := by simp [updS]
theorem updS_other (P : Nat → Slot) {i j : Nat} (p : Slot) (h : j ≠ i) : updS P i p j = P j := by simp [updS, h]
theorem updS_updS (P : Nat → Slot) (i : Nat) (p q : Slot) : updS (updS P i p) i q = updS P i q := by
  funext j
  by_cases h : j = i <;> simp [updS, h]
theorem updS_id (P : Nat → Slot) (i : Nat) : updS P i (P i) = P := by
  funext j
  by_cases h : j = i <;> simp [updS, h]

section
variable {w : World} {pb cap m : Nat} {P : Nat → Slot}
theorem FRow.cell (h : FRow w pb cap m P) {i k : Nat} (hi : i < cap) (hk : k < 5) : w.cell? ⟨pb, i * 5 + k, none⟩ = some (frCell m (P i) k) := by
  have := Row.cell h (i := i * 5 + k) (by omega)
  rw [this]
  have h1 : (i * 5 + k) / 5 = i := by omega
  have h2 : (i * 5 + k) % 5 = k := by omega
  rw [h1, h2]
theorem FRow.frozen (h : FRow w pb cap m P) (i : Nat) : w.frozen? ⟨pb, i, none⟩ = false := Row.frozen h i
theorem FRow.set (h : FRow w pb cap m P) {i : Nat} (k : Nat) (hk : k < 5) {v : Value} {p : Slot} (hp : ∀ q, q < 5 → frCell m p q = if q = k then v else frCell m (P i) q) : FRow (w.setCell ⟨pb, i * 5 + k, none⟩ v) pb cap m (updS P i p) := by
  refine (Row.set h (i * 5 + k) v).congr (fun c hc => ?_)
  by_cases e : c / 5 = i
  · rw [e, updS_same, hp _ (by omega)]
    by_cases e2 : c % 5 = k
    · rw [if_pos (by omega), if_pos e2]
    · rw [if_neg (by omega), if_neg e2]
  · rw [updS_other _ _ e, if_neg (by omega)]
theorem FRow.kp {S : List Nat} {w' : World} (h : FRow w pb cap m P) (k : Kp S w w') (hn : pb ∉ S) : FRow w' pb cap m P := Row.kp h k hn
theorem FRow.set0 (h : FRow w pb cap m P) (i : Nat) (x : Int) : FRow (w.setCell ⟨pb, i * 5, none⟩ (.int .i64 x)) pb cap m (updS P i { P i with ix := x }) :=
  h.set (i := i) 0 (by omega) (fun q _ => by unfold frCell mCell dCell; by_cases e : q = 0 <;> simp [e])
theorem FRow.set3 (h : FRow w pb cap m P) (i : Nat) (x : Bool) : FRow (w.setCell ⟨pb, i * 5 + 3, none⟩ (.bool x)) pb cap m (updS P i { P i with more := x }) :=
  h.set (i := i) 3 (by omega) (fun q _ => by unfold frCell mCell dCell; by_cases e : q = 3 <;> simp [e])
theorem FRow.set4 (h : FRow w pb cap m P) (i : Nat) (x : Int) : FRow (w.setCell ⟨pb, i * 5 + 4, none⟩ (.int .i64 x)) pb cap m (updS P i { P i with dep := x }) :=
  h.set (i := i) 4 (by omega) (fun q hq => by
    unfold frCell mCell dCell
    by_cases e : q = 4
    · simp [e]
    · have e' : q = 0 ∨ q = 1 ∨ q = 2 ∨ q = 3 := by omega
      rcases e' with rfl | rfl | rfl | rfl <;> simp)
/-- The two rows are put. -/
theorem FRow.set12 (h : FRow w pb cap m P) (i gm gd : Nat) :
    FRow ((w.setCell ⟨pb, i * 5 + 1, none⟩ (.slice (some ⟨gm, 0, none⟩) m m)).setCell ⟨pb, i * 5 + 2, none⟩ (.slice (some ⟨gd, 0, none⟩) m m)) pb cap m (updS P i { P i with has := true, gm := gm, gd := gd }) := by
  refine (Row.set (Row.set h (i * 5 + 1) _) (i * 5 + 2) _).congr (fun c hc => ?_)
  dsimp only
  by_cases e : c / 5 = i
  · rw [e, updS_same]
    have e' : c % 5 = 0 ∨ c % 5 = 1 ∨ c % 5 = 2 ∨ c % 5 = 3 ∨ c % 5 = 4 := by omega
    rcases e' with e2 | e2 | e2 | e2 | e2
    · rw [if_neg (by omega), if_neg (by omega), e2]; rfl
    · rw [if_neg (by omega), if_pos (by omega), e2]; rfl
    · rw [if_pos (by omega), e2]; rfl
    · rw [if_neg (by omega), if_neg (by omega), e2]; rfl
    · rw [if_neg (by omega), if_neg (by omega), e2]; rfl
  · rw [updS_other _ _ e, if_neg (by omega), if_neg (by omega)]
end

theorem Tryd.info72 : (Tryd.prog.info? 72).map (fun i => (i.zero, i.size, i.bytes)) = some (some (.int .u16 0), 1, 2) := by kernel_rfl
theorem Tryd.infoI : (Tryd.prog.info? 3).map (fun i => (i.zero, i.size, i.bytes)) = some (some (.int .i64 0), 1, 8) := by kernel_rfl

theorem heap_two (u : World) (o1 o2 : Obj) (N : Nat) (hN : u.heap.size = N) : ((u.alloc o1).alloc o2).drew.heap[N]? = some o1 ∧ ((u.alloc o1).alloc o2).drew.heap[N + 1]? = some o2 := by
  subst hN
  have e1 : u.heap.size + 1 = (u.alloc o1).heap.size := by simp
  refine ⟨?_, ?_⟩
  · show ((u.alloc o1).alloc o2).heap[_]? = _
    rw [heap_alloc_old _ _ (by rw [← e1]; omega), heap_alloc_new]
  · show ((u.alloc o1).alloc o2).heap[_]? = _
    rw [e1, heap_alloc_new]
theorem FRow.alloc {w : World} {pb cap m : Nat} {P : Nat → Slot} (h : FRow w pb cap m P) (o : Obj) : FRow (w.alloc o) pb cap m P := Row.alloc h o

/-- The rows of a frame: its own, or new ones. -/
def Rows2 (w : World) (p : Slot) (gm gd : Nat) : Prop := (p.has = true ∧ gm = p.gm ∧ gd = p.gd) ∨ (p.has = false ∧ w.heap.size ≤ gm ∧ w.heap.size ≤ gd ∧ gm ≠ gd)

set_option maxHeartbeats 3200000 in
set_option maxRecDepth 100000 in
theorem start_calls {lo : Nat} {V : VP} (G : VG V) (w : World) (hV : VerAt lo w V) (pb cap i x cb sg : Nat) (P : Nat → Slot) (cf st : Nat → Nat) (F : Nat → Value) (hi : i < cap) (hlo : lo ≤ w.heap.size) (hpb : lo ≤ pb) (hcb : lo ≤ cb) (hsg : sg ≠ cb) (hsp : sg ≠ pb) (hcp : cb ≠ pb) (hcs : cb ≠ V.sb) (hps : pb ≠ V.sb)
    (hst : ∀ j, j < V.m → st j < V.s) (hF : FRow w pb cap V.m P) (hS : DRow w sg V.m st) (hC : DRow w cb V.n cf) (hs : Row w V.sb 3 V.n F)
    (hp : (P i).has = true → lo ≤ (P i).gm ∧ lo ≤ (P i).gd ∧ (P i).gm ≠ (P i).gd ∧ (P i).gm ≠ pb ∧ (P i).gd ≠ pb ∧ (P i).gm ≠ cb ∧ (P i).gd ≠ cb ∧ (P i).gm ≠ V.sb ∧ (P i).gd ≠ V.sb ∧ (∃ A, Row w (P i).gm 72 V.m A) ∧ ∃ B, Row w (P i).gd 3 V.m B) :
    Calls Tryd.prog 29 #[.pointer (some ⟨V.vb, 0, none⟩), .pointer (some ⟨pb, i * 5, none⟩), .int .i64 x, .slice (some ⟨sg, 0, none⟩) V.m V.m, .slice (some ⟨cb, 0, none⟩) V.n V.n] w fun e w' => e = .returned (.tuple #[]) ∧ ∃ gm gd M d cf', Rows2 w (P i) gm gd ∧
      FRow w' pb cap V.m (updS P i ⟨x, true, gm, gd, true, 0⟩) ∧ MRow w' gm V.m M ∧ (∀ j, j < V.m → BitsOf (M j) (Can V st (V.s ^ V.ml) j)) ∧ DRow w' gd V.m d ∧ (∀ j, j < V.m → Can V st (V.s ^ V.ml) j (d j) ∧ ∀ y, Can V st (V.s ^ V.ml) j y → d j ≤ y) ∧ DRow w' cb V.n cf' ∧ (∃ F', Row w' V.sb 3 V.n F') ∧ Kp [pb, cb, V.sb, gm, gd] w w' := by
  obtain ⟨i1, a1, a2, a3, a4⟩ := info_parts Tryd.info72
  obtain ⟨i2, b1, b2, b3, b4⟩ := info_parts Tryd.infoI
  have hn := G.n2
  have hmn := G.mn
  have hm1 := G.m1
  have hs2 := G.s2
  obtain ⟨Z1, HZ1, r1⟩ := make_run (P := Tryd.prog) 64 72 i1 _ 1 Tryd.underlying64 a1 a2 a3 (V.m : Int) V.m rfl (by rw [a4]; omega) (by unfold maxLen; omega) (fun _ => .int .u16 0) (by rw [Nat.mul_one]; exact madeCells_one _ _)
  obtain ⟨Z2, HZ2, r2⟩ := make_run (P := Tryd.prog) 29 3 i2 _ 1 Tryd.underlying29 b1 b2 b3 (V.m : Int) V.m rfl (by rw [b4]; omega) (by unfold maxLen; omega) (fun _ => .int .i64 0) (by rw [Nat.mul_one]; exact madeCells_one _ _)
  rw [Nat.mul_one] at HZ1 HZ2
  clear a1 a2 a3 a4 b1 b2 b3 b4
  have HV := hid hV
  have HF := hid hF
  have HS := hid hS
  have HC := hid hC
  have Hs := hid hs
  have HP := hid hp
  have HST := hid hst
  have v3 := hV.v3
  have hvs := hV.sep V.vb (by simp)
  have hvp : ¬ V.vb = pb := by omega
  have q1 := hF.cell hi (k := 1) (by omega)
  have q2 := hF.cell hi (k := 2) (by omega)
  have e1 : frCell V.m (P i) 1 = mCell V.m (P i) := rfl
  have e2 : frCell V.m (P i) 2 = dCell V.m (P i) := rfl
  rw [e1] at q1
  rw [e2] at q2
  have z1 := hF.frozen (i * 5 + 1)
  have z2 := hF.frozen (i * 5 + 2)
  have hpl : pb < w.heap.size := Row.lt hF
  have hpl1 : pb < w.heap.size + 1 := by omega
  have hvl : V.vb < w.heap.size := by omega
  have hvl1 : V.vb < w.heap.size + 1 := by omega
  clear hV hF hS hC hs hp hst e1 e2
  obtain ⟨ma, ml', hmc, hmn'⟩ : ∃ a l, mCell V.m (P i) = .slice a l l ∧ a.isNone = !(P i).has := by
    cases hh : (P i).has
    · exact ⟨none, 0, by simp [mCell, hh], rfl⟩
    · exact ⟨some ⟨(P i).gm, 0, none⟩, V.m, by simp [mCell, hh], rfl⟩
  have hnil : ∀ w : World, (binOp .eql 64 (.slice ma ml' ml') (.slice none 0 0)).run Tryd.prog w = .ok (.bool (!(P i).has)) w := fun w => by
    rw [← hmn']; exact Lib.run_eql_slice_nil (P := Tryd.prog) w 64 72 ma ml' ml' 0 0 Tryd.underlying64
  rw [hmc] at q1
  clear hmn' hmc
  go_enter Tryd.func29, Tryd.ntmps29
  go_upto_if 18 with fail
  go_cut [] from 14 (fun wc => ∃ gm gd A B, Rows2 w (P i) gm gd ∧ FRow wc pb cap V.m (updS P i { P i with has := true, gm := gm, gd := gd }) ∧ Row wc gm 72 V.m A ∧ Row wc gd 3 V.m B ∧ Kp [pb] w wc)
  case first =>
    cases hh : (P i).has
    · go_wp2_with fail
      go_region
      all_goals go_wp2
      all_goals go_meet
      · have hh2 := heap_two ((w.setCell ⟨pb, i * 5 + 1, none⟩ (.slice (some ⟨w.heap.size, 0, none⟩) V.m V.m)).setCell ⟨pb, i * 5 + 2, none⟩ (.slice (some ⟨w.heap.size + 1, 0, none⟩) V.m V.m)) (.cells Z1 72) (.cells Z2 3) w.heap.size (by simp [World.setCell])
        exact ⟨w.heap.size, w.heap.size + 1, _, _, .inr ⟨hh, by omega, by omega, by omega⟩, ((HF.out.set12 i _ _).alloc _).alloc _, Row.of_heap hh2.1 HZ1, Row.of_heap hh2.2 HZ2, ((((Kp.set _ _ _ _).setCell (.inl (by simp)) _).alloc _).alloc _).drew⟩
      · have hh2 := heap_two ((w.setCell ⟨pb, i * 5 + 1, none⟩ (.slice (some ⟨w.heap.size + 1, 0, none⟩) V.m V.m)).setCell ⟨pb, i * 5 + 2, none⟩ (.slice (some ⟨w.heap.size, 0, none⟩) V.m V.m)) (.cells Z2 3) (.cells Z1 72) w.heap.size (by simp [World.setCell])
        exact ⟨w.heap.size + 1, w.heap.size, _, _, .inr ⟨hh, by omega, by omega, by omega⟩, ((HF.out.set12 i _ _).alloc _).alloc _, Row.of_heap hh2.2 HZ1, Row.of_heap hh2.1 HZ2, ((((Kp.set _ _ _ _).setCell (.inl (by simp)) _).alloc _).alloc _).drew⟩
    · go_wp2
      go_meet
      obtain ⟨p1, p2, p3, p4, p5, p6, p7, p8, p9, ⟨A, hA⟩, B, hB⟩ := HP.out hh
      refine ⟨(P i).gm, (P i).gd, A, B, .inl ⟨hh, rfl, rfl⟩, ?_, hA, hB, Kp.refl _ _⟩
      have e : ({ P i with has := true, gm := (P i).gm, gd := (P i).gd } : Slot) = P i := by
        rw [← hh]
      rw [e, updS_id]
      exact HF.out
  case rest =>
    obtain ⟨gm, gd, A, B, hrw, hF1, hA, hB, hk1⟩ := hcut
    have hsl := Hs.out.lt
    have hcl := HC.out.lt
    have hsgl := HS.out.lt
    have hsep : lo ≤ gm ∧ lo ≤ gd ∧ gm ≠ gd ∧ gm ≠ pb ∧ gd ≠ pb ∧ gm ≠ cb ∧ gd ≠ cb ∧ gm ≠ V.sb ∧ gd ≠ V.sb := by
      rcases hrw with ⟨hh, rfl, rfl⟩ | ⟨hh, h1, h2, h3⟩
      · obtain ⟨p1, p2, p3, p4, p5, p6, p7, p8, p9, _⟩ := HP.out hh
        exact ⟨p1, p2, p3, p4, p5, p6, p7, p8, p9⟩
      · refine ⟨?_, ?_, h3, ?_, ?_, ?_, ?_, ?_, ?_⟩ <;> omega
    obtain ⟨s1, s2, s3, s4, s5, s6, s7, s8, s9⟩ := hsep
    have HRW := hid hrw
    have HK1 := hid hk1
    have HA := hid hA
    have HB := hid hB
    have v3c := hk1.cell' v3 (by simpa using hvp)
    have c0 := hF1.cell hi (k := 0) (by omega)
    have c3 := hF1.cell hi (k := 3) (by omega)
    have c4 := hF1.cell hi (k := 4) (by omega)
    have y0 := hF1.frozen (i * 5)
    have y3 := hF1.frozen (i * 5 + 3)
    have y4 := hF1.frozen (i * 5 + 4)
    rw [Nat.add_zero] at c0
    have HF1 : Hid (FRow (((wc.setCell ⟨pb, i * 5, none⟩ (.int .i64 x)).setCell ⟨pb, i * 5 + 3, none⟩ (.bool true)).setCell ⟨pb, i * 5 + 4, none⟩ (.int .i64 0)) pb cap V.m (updS P i ⟨x, true, gm, gd, true, 0⟩)) := by
      have h := ((hF1.set0 i x).set3 i true).set4 i 0
      simp only [updS_updS, updS_same] at h
      exact h
    have HKa : Hid (Kp [pb] w (((wc.setCell ⟨pb, i * 5, none⟩ (.int .i64 x)).setCell ⟨pb, i * 5 + 3, none⟩ (.bool true)).setCell ⟨pb, i * 5 + 4, none⟩ (.int .i64 0))) := ((hk1.setCell (.inl (by simp)) _).setCell (.inl (by simp)) _).setCell (.inl (by simp)) _
    have HKc : Hid (Kp [pb] wc (((wc.setCell ⟨pb, i * 5, none⟩ (.int .i64 x)).setCell ⟨pb, i * 5 + 3, none⟩ (.bool true)).setCell ⟨pb, i * 5 + 4, none⟩ (.int .i64 0))) := ((Kp.set _ _ _ _).setCell (.inl (by simp)) _).setCell (.inl (by simp)) _
    clear hrw hF1 hA hB hk1 r1 r2 HZ1 HZ2 hnil
    go_wp2
    obtain ⟨w2, hw2⟩ : ∃ w2, w2 = ((wc.setCell ⟨pb, i * 5, none⟩ (.int .i64 x)).setCell ⟨pb, i * 5 + 3, none⟩ (.bool true)).setCell ⟨pb, i * 5 + 4, none⟩ (.int .i64 0) := ⟨_, rfl⟩
    rw [← hw2] at HF1 HKa HKc
    rw [← hw2]
    clear hw2
    have HA2 := hid (HA.out.kp HKc.out (by simpa using s4))
    have HB2 := hid (HB.out.kp HKc.out (by simpa using s5))
    have HV2 := hid (HV.out.kp HKa.out (by simpa using .inr hpb))
    have HS2 : Hid (DRow w2 sg V.m st) := HS.out.kp HKa.out (by simpa using hsp)
    have HC2 : Hid (DRow w2 cb V.n cf) := HC.out.kp HKa.out (by simpa using hcp)
    have Hs2 := hid (Hs.out.kp HKa.out (by simpa using Ne.symm hps))
    clear HA HB HV HS HC Hs HF HP HK1 HKc c0 c3 c4 y0 y3 y4 v3c q1 q2 z1 z2 v3
    go_loopw [10, 11, 52] (fun _ _ i wq => ∃ k : Nat, k ≤ V.m ∧ i = .int .i64 k ∧ DRow wq cb V.n (fun u => if V.fb u = false ∧ cw V.fb false u < k then st (cw V.fb false u) else cf u) ∧ Kp [cb] w2 wq) (fun _ _ i _ => V.m - (intOf i).toNat)
    case atStart => exact ⟨0, by omega, rfl, HC2.out.congr (fun u hu => by simp), Kp.refl _ _⟩
    case round =>
      obtain ⟨k, hk, rfl, hr, hkp⟩ := hrel
      have HRr := hid hr
      have HKp := hid hkp
      have HV3 := hid (HV2.out.kp hkp (by simpa using .inr hcb))
      by_cases hlt : k < V.m
      · obtain ⟨u, hu⟩ : ∃ u, u = nth V.fb false V.n k := ⟨_, rfl⟩
        have hun := G.cor hlt
        have hur : cw V.fb false (nth V.fb false V.n k) = k := cw_nth (by rw [← G.hm]; exact hlt)
        have hck := HV3.out.correct k hlt
        have hcs' := hkp.cell' (HS2.out.cell hlt) (by simpa using hsg)
        rw [← hu] at hun hur hck
        have hcu := hr.cell hun.1
        have hfu := hr.frozen u
        have hun1 := hun.1
        have hfb := hun.2
        have HU := hid hu
        clear hr hkp hu hun
        go_wp2
        go_roundw
        case rel =>
          refine ⟨k + 1, by omega, by go_num, (HRr.out.set u _).congr (fun v hv => ?_), HKp.out.setCell (.inl (by simp)) _⟩
          dsimp only
          by_cases e : v = u
          · subst e
            simp [hfb, hur]
          · by_cases hv2 : V.fb v = false
            · have hne : cw V.fb false v ≠ k := fun e2 => e (by rw [HU.out, ← e2]; exact (nth_cw hv hv2).symm)
              have hiff : (cw V.fb false v < k + 1) ↔ (cw V.fb false v < k) := by omega
              simp [e, hiff]
            · simp [e, hv2]
        case measure => simp [intOf]; omega
      · obtain rfl : V.m = k := by omega
        have HCF : Hid (∀ u, u < V.n → V.fb u = false → (fun u => if V.fb u = false ∧ cw V.fb false u < V.m then st (cw V.fb false u) else cf u) u = st (cw V.fb false u)) := fun u hu hf => by
          have h1 := cw_lt hu hf
          rw [← G.hm] at h1
          simp [hf, h1]
        have HFq : Hid (FRow wr pb cap V.m (updS P i ⟨x, true, gm, gd, true, 0⟩)) := HF1.out.kp hkp (by simpa using Ne.symm hcp)
        have g1 := HFq.out.cell hi (k := 1) (by omega)
        rw [updS_same] at g1
        have g1' : wr.cell? ⟨pb, i * 5 + 1, none⟩ = some (.slice (some ⟨gm, 0, none⟩) V.m V.m) := g1
        have HAq := hid (HA2.out.kp hkp (by simpa using s6))
        have HBq := hid (HB2.out.kp hkp (by simpa using s7))
        have Hsq := hid (Hs2.out.kp hkp (by simpa using Ne.symm hcs))
        have HKq := hid ((HKa.out.weaken (S' := [pb, cb, V.sb, gm, gd]) (by simp)).trans hkp (by simp))
        obtain ⟨cf1, hcf1⟩ : ∃ cf1 : Nat → Nat, cf1 = fun u => if V.fb u = false ∧ cw V.fb false u < V.m then st (cw V.fb false u) else cf u := ⟨_, rfl⟩
        rw [← hcf1] at HCF HRr
        have HNE : Hid (∀ j, j < V.m → Can V st (V.s ^ V.ml) j (tgt V st 0 j)) := fun j hj => ⟨0, Nat.pow_pos G.s1, rfl⟩
        clear hr hkp hcf1 g1 HA2 HB2 HC2 Hs2 HS2 HF1 HKa HV2
        go_wp2_with fail
        refine (successors_calls G wr HV3.out cb gm cf1 st F A s1 s8 (Ne.symm s6) HST.out HCF.out HRr.out Hsq.out HAq.out).mono ?_
        rintro e w4 ⟨rfl, M, hM4, hB4, ⟨F', hs4⟩, hk4⟩
        have HF4 : Hid (FRow w4 pb cap V.m (updS P i ⟨x, true, gm, gd, true, 0⟩)) := HFq.out.kp hk4 (by simp; exact ⟨hps, Ne.symm s4⟩)
        have g1 := HF4.out.cell hi (k := 1) (by omega)
        rw [updS_same] at g1
        have g14 : w4.cell? ⟨pb, i * 5 + 1, none⟩ = some (.slice (some ⟨gm, 0, none⟩) V.m V.m) := g1
        have HC4 : Hid (DRow w4 cb V.n cf1) := HRr.out.kp hk4 (by simp; exact ⟨hcs, Ne.symm s6⟩)
        have HB4r := hid (HBq.out.kp hk4 (by simp; exact ⟨s9, Ne.symm s3⟩))
        have HK4 := hid (HKq.out.trans hk4 (by simp))
        have HV4 := hid (HV3.out.kp hk4 (by simp; exact .inr s1))
        have HM4 := hid hM4
        have HBt := hid hB4
        have Hs4 := hid hs4
        clear g1 hM4 hB4 hs4 hk4 HFq HAq HBq Hsq HKq HV3 HRr HKp g1'
        go_wp2
        go_loopw [12, 13, 77] (fun _ _ i wq => ∃ k : Nat, k ≤ V.m ∧ i = .int .i64 k ∧ Row wq gd 3 V.m (fun j => if j < k then .int .i64 (Lib.ctz 16 (M j) : Nat) else B j) ∧ Kp [gd] w4 wq) (fun _ _ i _ => V.m - (intOf i).toNat)
        case atStart => exact ⟨0, by omega, rfl, HB4r.out.congr (fun u hu => by simp), Kp.refl _ _⟩
        case round =>
          obtain ⟨k, hk, rfl, hr, hkp⟩ := hrel
          have HRr := hid hr
          have HKp := hid hkp
          by_cases hlt : k < V.m
          · have hcd := hr.cell hlt
            have hfd := hr.frozen k
            have hcm := hkp.cell' (HM4.out.cell hlt) (by simpa using s3)
            have hBk := HBt.out k hlt
            have hMk := hBk.1
            have hMne := hBk.ne (HNE.out k hlt)
            have HTr := hid ((HV4.out.tab).kp hkp (by have := (HV4.out.sep 0 (by simp)).1; simp; omega))
            have HFr := hid (HF4.out.kp hkp (by simpa using Ne.symm s5))
            have g2 := HFr.out.cell hi (k := 2) (by omega)
            rw [updS_same] at g2
            have g2' : wr.cell? ⟨pb, i * 5 + 2, none⟩ = some (.slice (some ⟨gd, 0, none⟩) V.m V.m) := g2
            have hpg : ¬ pb = gd := Ne.symm s5
            clear hr hkp hBk g2 HFr
            go_wp2_with fail
            go_region_with (go_at_call 30; refine (tz_calls (M k) _ hMne hMk (HTr.out.drewN 1)).mono ?_; rintro e w9 ⟨rfl, rfl⟩)
            all_goals
              go_wp2
              go_roundw
              case rel =>
                refine ⟨k + 1, by omega, by go_num, ((HRr.out.drewN 1).set k _).congr (fun j hj => ?_), (HKp.out.drewN 1).setCell (.inl (by simp)) _⟩
                by_cases e : j = k
                · simp [e]
                · by_cases e2 : j < k
                  · have e3 : j < k + 1 := by omega
                    simp [e, e2, e3]
                  · have e3 : ¬ j < k + 1 := by omega
                    simp [e, e2, e3]
              case measure => simp [intOf]; omega
          · obtain rfl : V.m = k := by omega
            clear hr hkp
            go_wp2
            go_end0
            refine ⟨rfl, gm, gd, M, fun j => Lib.ctz 16 (M j), cf1, HRW.out, HF4.out.kp HKp.out (by simpa using Ne.symm s5), HM4.out.kp HKp.out (by simpa using s3), HBt.out, HRr.out.congr (fun j hj => by simp [hj]), fun j hj => ?_, HC4.out.kp HKp.out (by simpa using Ne.symm s7), ⟨_, Hs4.out.kp HKp.out (by simpa using Ne.symm s9)⟩, HK4.out.trans HKp.out (by simp)⟩
            have h1 := (HBt.out j hj).lo (HNE.out j hj)
            exact ⟨h1.1, h1.2.1⟩
end Go.Proofs.Qxb6615056aDoor

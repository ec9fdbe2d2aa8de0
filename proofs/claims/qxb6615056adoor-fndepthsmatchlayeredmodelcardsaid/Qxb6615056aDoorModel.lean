/-
  depthModel (15): the layered model.
-/
import Derived.Test.Qxb6615056aDoorDom
import Derived.Deep.CutRange
namespace Go.Proofs.Qxb6615056aDoor
open Go.RowKit Go.Tocsin

/-- Configuration i can step to k, as a mark. -/
def sB (V : VP) (i : Nat) : Nat → Bool := fun k => decide (k < V.C) && (List.range V.m).all fun j => (List.range (V.s ^ V.ml)).any fun t => tgt V (dg V.s V.m i) t j == dg V.s V.m k j
theorem sB_iff (V : VP) (i k : Nat) : sB V i k = true ↔ SS V i k := by
  unfold sB SS Can
  simp only [Bool.and_eq_true, decide_eq_true_eq, List.all_eq_true, List.any_eq_true, List.mem_range, beq_iff_eq]

theorem Tryd.infoB : (Tryd.prog.info? 4).map (fun i => (i.zero, i.size, i.bytes)) = some (some (.bool false), 1, 1) := by kernel_rfl
theorem Tryd.infoSl : (Tryd.prog.info? 29).map (fun i => (i.zero, i.size, i.bytes)) = some (some (.slice none 0 0), 1, 24) := by kernel_rfl

/-- The search's liars and correct nodes, wherever they lie. -/
structure MIn (V : VP) (w : World) (nb kb : Nat) (la : Option Addr) (lb : Nat) : Prop where
  next : ∀ i, i < V.ln → w.cell? ⟨nb, i, none⟩ = some (.int .u8 (V.nx i : Nat))
  cor : ∀ i, i < V.m → w.cell? ⟨kb, i, none⟩ = some (.int .i64 (nth V.fb false V.n i : Nat))
  lia : 0 < V.ml → la = some ⟨lb, 0, none⟩ ∧ ∀ i, i < V.ml → w.cell? ⟨lb, i, none⟩ = some (.int .i64 (nth V.fb true V.n i : Nat))
theorem MIn.kp {V : VP} {w w' : World} {nb kb lb : Nat} {la : Option Addr} {S : List Nat} (h : MIn V w nb kb la lb) (k : Kp S w w') (h1 : nb ∉ S) (h2 : kb ∉ S) (h3 : lb ∉ S) : MIn V w' nb kb la lb :=
  ⟨fun i hi => k.cell' (h.next i hi) h1, fun i hi => k.cell' (h.cor i hi) h2, fun h0 => ⟨(h.lia h0).1, fun i hi => k.cell' ((h.lia h0).2 i hi) h3⟩⟩

structure MSt (V : VP) (W0 : Nat) (w : World) (gd go gl gob gm gg gs k : Nat) (sv : Nat → Value) : Prop where
  d : ∃ F, Row w gd 3 V.m F
  o : ∃ F, Row w go 3 V.m F
  l : ∃ F, Row w gl 3 V.ml F
  ob : ∃ F, Row w gob 3 V.n F
  m : ∃ F, Row w gm 3 V.m F
  g : Row w gg 4 V.C (fun i => .bool (if i < k then goodC V i else false))
  s : Row w gs 29 V.C (fun i => if i < k then sv i else .slice none 0 0)
  own : ∀ i, i < k → Own w 3 (sv i) (cw (sB V i) true V.C) (fun q => .int .i64 (nth (sB V i) true V.C q : Nat))
  sep : ∀ i, i < k → ∀ b ∈ blks (sv i), W0 ≤ b

/-- A mask in an int. -/
def IRow (w : World) (g m : Nat) (M : Nat → Nat) : Prop := Row w g 3 m (fun i => .int .i64 (M i : Nat))

theorem i64_pow {r : Nat} (h : r < 16) : IntKind.i64.wrap ((2 : Int) ^ r) = ((2 ^ r : Nat) : Int) := by
  have h2 : 2 ^ r < 2 ^ 16 := Nat.pow_lt_pow_right (by omega) h
  have e : ((2 : Int) ^ r) = ((2 ^ r : Nat) : Int) := by simp
  rw [e, IntKind.wrap_i64]
  clear e
  generalize 2 ^ r = p at *
  omega

theorem w64_pow {r : Nat} (h : r < 16) : wrap64 ((2 : Int) ^ r) = ((2 ^ r : Nat) : Int) := by
  have h2 : 2 ^ r < 2 ^ 16 := Nat.pow_lt_pow_right (by omega) h
  have e : ((2 : Int) ^ r) = ((2 ^ r : Nat) : Int) := by simp
  rw [e]
  unfold wrap64
  clear e
  generalize 2 ^ r = p at *
  omega
theorem bits_or_i64_nat (a b : Nat) (ha : a < 65536) (hb : b < 65536) : bits .or .i64 (a : Int) (b : Int) = ((a ||| b : Nat) : Int) := by
  have hx : a ||| b < 2 ^ 16 := Nat.or_lt_two_pow (by omega) (by omega)
  have h1 : (BitVec.ofInt 64 (a : Int)).toNat = a := by
    rw [BitVec.ofInt_natCast, BitVec.toNat_ofNat]; exact Nat.mod_eq_of_lt (by omega)
  have h2 : (BitVec.ofInt 64 (b : Int)).toNat = b := by
    rw [BitVec.ofInt_natCast, BitVec.toNat_ofNat]; exact Nat.mod_eq_of_lt (by omega)
  show IntKind.i64.wrap ((BitVec.ofInt 64 (a : Int) ||| BitVec.ofInt 64 (b : Int)).toNat : Int) = _
  rw [BitVec.toNat_or, h1, h2, IntKind.wrap_i64]
  omega
theorem bits_and_i64_nat (a b : Nat) (ha : a < 65536) (hb : b < 65536) : bits .and .i64 (a : Int) (b : Int) = ((a &&& b : Nat) : Int) := by
  have hx : a &&& b < 2 ^ 16 := Nat.and_lt_two_pow _ (by omega)
  have h1 : (BitVec.ofInt 64 (a : Int)).toNat = a := by
    rw [BitVec.ofInt_natCast, BitVec.toNat_ofNat]; exact Nat.mod_eq_of_lt (by omega)
  have h2 : (BitVec.ofInt 64 (b : Int)).toNat = b := by
    rw [BitVec.ofInt_natCast, BitVec.toNat_ofNat]; exact Nat.mod_eq_of_lt (by omega)
  show IntKind.i64.wrap ((BitVec.ofInt 64 (a : Int) &&& BitVec.ofInt 64 (b : Int)).toNat : Int) = _
  rw [BitVec.toNat_and, h1, h2, IntKind.wrap_i64]
  omega
/-- The test of one bit. -/
theorem and_pow_zero (M d : Nat) : (M &&& 2 ^ d = 0) ↔ M.testBit d = false := by
  constructor
  · intro h
    have h1 : (M &&& 2 ^ d).testBit d = false := by rw [h]; simp
    rw [Nat.testBit_and, Nat.testBit_two_pow_self, Bool.and_true] at h1
    exact h1
  · intro h
    apply Nat.eq_of_testBit_eq
    intro i
    rw [Nat.testBit_and, Nat.testBit_two_pow]
    by_cases e : d = i
    · subst e; simp [h]
    · simp [e]

theorem sB_true {V : VP} {i k : Nat} (hk : k < V.C) (h : ∀ j, j < V.m → Can V (dg V.s V.m i) (V.s ^ V.ml) j (dg V.s V.m k j)) : sB V i k = true := (sB_iff V i k).2 ⟨hk, h⟩
theorem sB_false {V : VP} {i k j : Nat} (hj : j < V.m) (h : ¬ Can V (dg V.s V.m i) (V.s ^ V.ml) j (dg V.s V.m k j)) : sB V i k = false := by
  cases e : sB V i k with
  | false => rfl
  | true => exact absurd (((sB_iff V i k).1 e).2 j hj) h
theorem sB_ss {V : VP} {i k : Nat} (h : sB V i k = true) : SS V i k := (sB_iff V i k).1 h

/-- The depths known after r rounds. -/
def lay (D : Nat → Int) (r : Nat) (i : Nat) : Int := if 0 ≤ D i ∧ D i ≤ r then D i else -1
/-- The configurations of depth r, as marks. -/
def dB (D : Nat → Int) (r : Nat) : Nat → Bool := fun i => decide (D i = (r : Int))
theorem mark_no {D : Nat → Int} {r i : Nat} (h : lay D r i ≠ -1) : dB D (r + 1) i = false := by
  unfold dB
  refine decide_eq_false (fun e => h ?_)
  unfold lay
  rw [if_neg (by omega)]
theorem lay_next (D : Nat → Int) (r i : Nat) : lay D (r + 1) i = if D i = ((r + 1 : Nat) : Int) then ((r + 1 : Nat) : Int) else lay D r i := by
  unfold lay
  by_cases e : D i = ((r + 1 : Nat) : Int)
  · rw [if_pos e, if_pos (by omega), e]
  · rw [if_neg e]
    by_cases h : 0 ≤ D i ∧ D i ≤ (r : Int)
    · rw [if_pos h, if_pos (by omega)]
    · rw [if_neg h, if_neg (by omega)]
section
variable {V : VP} {D : Nat → Int}
theorem lay_end (F : Final V.C (SS V) (goodC V) D) {r : Nat} (h : ∀ i, i < V.C → ¬ (r : Int) < D i) : ∀ i, i < V.C → (lay D r i = -1 → D i = -3) ∧ (lay D r i ≠ -1 → lay D r i = D i) := by
  intro i hi
  have h1 := F.vals hi
  have h2 := h i hi
  unfold lay
  by_cases e : 0 ≤ D i ∧ D i ≤ (r : Int)
  · rw [if_pos e]
    exact ⟨fun h => by omega, fun _ => rfl⟩
  · rw [if_neg e]
    exact ⟨fun _ => by omega, fun h => absurd rfl h⟩
/-- No depth r + 1: none above. -/
theorem lay_stop (F : Final V.C (SS V) (goodC V) D) {r : Nat} (h : ∀ i, i < V.C → D i ≠ ((r + 1 : Nat) : Int)) : ∀ i, i < V.C → ¬ (r : Int) < D i := by
  intro i hi hlt
  obtain ⟨d, hd⟩ := Int.eq_ofNat_of_zero_le (show 0 ≤ D i by omega)
  obtain ⟨x, hx, e⟩ := F.reach (fun i k _ h => SS.lt i k h) d i hi hd (r + 1) (by omega)
  exact h x hx e
theorem mark_yes (F : Final V.C (SS V) (goodC V) D) {r i : Nat} (hi : i < V.C) (h : lay D r i = -1) (hs : ∀ k, SS V i k → 0 ≤ lay D r k) : dB D (r + 1) i = true := by
  have hk : ∀ k, SS V i k → 0 ≤ D k ∧ D k ≤ (r : Int) := fun k hk => by
    have := hs k hk
    unfold lay at this
    by_cases e : 0 ≤ D k ∧ D k ≤ (r : Int)
    · exact e
    · rw [if_neg e] at this; omega
  have hn : ¬ (0 ≤ D i ∧ D i ≤ (r : Int)) := fun e => by unfold lay at h; rw [if_pos e] at h; omega
  unfold dB
  refine decide_eq_true ?_
  cases hg : goodC V i with
  | true => have := F.fine i hi hg; omega
  | false =>
    rcases F.bad i hi hg with ⟨_, k, _, h2, h3⟩ | ⟨h1, _, k, h2, _, h3⟩
    · have := hk k h2; omega
    · have := hk k h2; omega
theorem mark_some (F : Final V.C (SS V) (goodC V) D) {r i k : Nat} (hi : i < V.C) (hs : SS V i k) (h : lay D r k < 0) : dB D (r + 1) i = false := by
  unfold dB
  refine decide_eq_false (fun e => ?_)
  have hg : goodC V i = false := by
    cases hc : goodC V i with
    | false => rfl
    | true => have := F.fine i hi hc; omega
  rcases F.bad i hi hg with ⟨h1, _⟩ | ⟨_, h2, _⟩
  · omega
  · have h3 := h2 k hs
    unfold lay at h
    rw [if_pos (by omega)] at h
    omega
end

/-- Seven blocks in a row, and what lies before and behind them. -/
structure Sep7 (n0 n7 gd go gl gob gm gg gs : Nat) : Prop where
  e0 : n0 = gd
  e1 : go = gd + 1
  e2 : gl = gd + 2
  e3 : gob = gd + 3
  e4 : gm = gd + 4
  e5 : gg = gd + 5
  e6 : gs = gd + 6
  e7 : n7 = gd + 7
theorem sep7_of {n0 n7 gd go gl gob gm gg gs : Nat} (h7 : n7 = n0 + 1 + 1 + 1 + 1 + 1 + 1 + 1) (h6 : gs = n0 + 1 + 1 + 1 + 1 + 1 + 1) (h5 : gg = n0 + 1 + 1 + 1 + 1 + 1) (h4 : gm = n0 + 1 + 1 + 1 + 1) (h3 : gob = n0 + 1 + 1 + 1) (h2 : gl = n0 + 1 + 1) (h1 : go = n0 + 1) (h0 : gd = n0) : Sep7 n0 n7 gd go gl gob gm gg gs := by
  subst h7 h6 h5 h4 h3 h2 h1 h0
  exact ⟨rfl, rfl, rfl, rfl, rfl, rfl, rfl, rfl⟩

set_option maxHeartbeats 8000000 in
set_option maxRecDepth 100000 in
theorem model_calls {V : VP} (G : VG V) {D : Nat → Int} (hFin : Final V.C (SS V) (goodC V) D) (w : World) (nb fk kb ck lb lc cf : Nat) (la : Option Addr) (hI : MIn V w nb kb la lb) (hnb : nb < w.heap.size) (hkb : kb < w.heap.size) (hlb : lb < w.heap.size) :
    Calls Tryd.prog 15 #[.int .i64 V.s, .slice (some ⟨nb, 0, none⟩) V.ln V.ln, .slice (some ⟨fk, 0, none⟩) V.n cf, .slice (some ⟨kb, 0, none⟩) V.m ck, .slice la V.ml lc, .int .i64 V.md, .int .i64 V.C] w fun e w' => ∃ g, e = .returned (.slice (some ⟨g, 0, none⟩) V.C V.C) ∧ w.heap.size ≤ g ∧ Row w' g 3 V.C (fun i => .int .i64 (D i)) ∧ Kp [] w w' := by
  obtain ⟨i0, hi, hz0, hz1, hz2⟩ := info_parts Tryd.info3
  obtain ⟨i1, hi1, hy0, hy1, hy2⟩ := info_parts Tryd.infoB
  obtain ⟨i2, hi2, hx0, hx1, hx2⟩ := info_parts Tryd.infoSl
  have FIN := hid hFin
  have HI := hid hI
  have hn := G.n2
  have hn1 := G.n1
  have hmn := G.mn
  have hmln := G.mln
  have hm1 := G.m1
  have hs1 := G.s1
  have hs2 := G.s2
  have hC2 := G.C2
  have hln := G.ln2
  have HPl : Hid (∀ k, k ≤ V.ml → V.s ^ k ≤ 1048576) := fun k hk => Nat.le_trans (Nat.pow_le_pow_right hs1 (by omega)) G.pn
  clear hFin hI
  go_enter Tryd.func15, Tryd.ntmps15
  go_wp2
  go_loop [17, 18] (fun p i => ∃ k q : Nat, k ≤ V.ml ∧ i = .int .i64 k ∧ p = .int .i64 q ∧ Hid (q = V.s ^ k)) (fun _ i => V.ml - (intOf i).toNat)
  case atStart => exact ⟨0, 1, by omega, rfl, rfl, by simp [Hid]⟩
  case round =>
    obtain ⟨k, q, hk, rfl, rfl, HQ⟩ := hrel
    by_cases hlt : k < V.ml
    · have hq : q ≤ 1048576 := by rw [HQ.out]; exact HPl.out k (by omega)
      have hqs : q * V.s ≤ 1048576 := by rw [HQ.out, ← Nat.pow_succ]; exact HPl.out (k + 1) (by omega)
      have hb0 : (0 : Int) ≤ (q : Int) * (V.s : Int) := by rw [← Int.natCast_mul]; omega
      have hb1 : (q : Int) * (V.s : Int) ≤ 1048576 := by rw [← Int.natCast_mul]; omega
      go_wp2
      go_round
      case rel => exact ⟨k + 1, q * V.s, by omega, by go_num, by rw [Int.natCast_mul], by show q * V.s = V.s ^ (k + 1); rw [HQ.out, Nat.pow_succ]⟩
      case measure => simp [intOf]; omega
    · obtain rfl : V.ml = k := by omega
      have hT : q ≤ 1048576 := by rw [HQ.out]; exact HPl.out _ (Nat.le_refl _)
      obtain ⟨T, hTq⟩ : ∃ T, T = q := ⟨_, rfl⟩
      rw [← hTq] at HQ hT
      rw [← hTq]
      clear hTq
      go_upto_region 9 with (at_make; refine wpList_make_row _ rfl _ _ 29 rfl 3 i0 (.int .i64 0) 1 Tryd.underlying29 hi hz0 hz1 _ _ _ _ V.m rfl rfl rfl rfl (by rw [hz2]; omega) (by unfold maxLen; omega) (fun _ => .int .i64 0) (by rw [Nat.mul_one]; exact madeCells_one _ _) ?_; intro w1 hr1 hk1 hs1')
      go_upto_region 10 with (at_make; refine wpList_make_row _ rfl _ _ 29 rfl 3 i0 (.int .i64 0) 1 Tryd.underlying29 hi hz0 hz1 _ _ _ _ V.m rfl rfl rfl rfl (by rw [hz2]; omega) (by unfold maxLen; omega) (fun _ => .int .i64 0) (by rw [Nat.mul_one]; exact madeCells_one _ _) ?_; intro w2 hr2 hk2 hs2')
      go_upto_region 11 with (at_make; refine wpList_make_row _ rfl _ _ 29 rfl 3 i0 (.int .i64 0) 1 Tryd.underlying29 hi hz0 hz1 _ _ _ _ V.ml rfl rfl rfl rfl (by rw [hz2]; omega) (by unfold maxLen; omega) (fun _ => .int .i64 0) (by rw [Nat.mul_one]; exact madeCells_one _ _) ?_; intro w3 hr3 hk3 hs3')
      go_upto_region 12 with (at_make; refine wpList_make_row _ rfl _ _ 29 rfl 3 i0 (.int .i64 0) 1 Tryd.underlying29 hi hz0 hz1 _ _ _ _ V.n rfl rfl rfl rfl (by rw [hz2]; omega) (by unfold maxLen; omega) (fun _ => .int .i64 0) (by rw [Nat.mul_one]; exact madeCells_one _ _) ?_; intro w4 hr4 hk4 hs4')
      go_upto_region 13 with (at_make; refine wpList_make_row _ rfl _ _ 29 rfl 3 i0 (.int .i64 0) 1 Tryd.underlying29 hi hz0 hz1 _ _ _ _ V.m rfl rfl rfl rfl (by rw [hz2]; omega) (by unfold maxLen; omega) (fun _ => .int .i64 0) (by rw [Nat.mul_one]; exact madeCells_one _ _) ?_; intro w5 hr5 hk5 hs5')
      go_upto_region 14 with (at_make; refine wpList_make_row _ rfl _ _ 23 rfl 4 i1 (.bool false) 1 Tryd.underlying23 hi1 hy0 hy1 _ _ _ _ V.C rfl rfl rfl rfl (by rw [hy2]; omega) (by unfold maxLen; omega) (fun _ => .bool false) (by rw [Nat.mul_one]; exact madeCells_one _ _) ?_; intro w6 hr6 hk6 hs6')
      go_upto_region 15 with (at_make; refine wpList_make_row _ rfl _ _ 56 rfl 29 i2 (.slice none 0 0) 1 Tryd.underlying56 hi2 hx0 hx1 _ _ _ _ V.C rfl rfl rfl rfl (by rw [hx2]; omega) (by unfold maxLen; omega) (fun _ => .slice none 0 0) (by rw [Nat.mul_one]; exact madeCells_one _ _) ?_; intro w7 hr7 hk7 hs7')
      rw [Nat.mul_one] at hr1 hr2 hr3 hr4 hr5 hr6 hr7
      rw [hs1'] at hr2 hs2'
      rw [hs2'] at hr3 hs3'
      rw [hs3'] at hr4 hs4'
      rw [hs4'] at hr5 hs5'
      rw [hs5'] at hr6 hs6'
      rw [hs6'] at hr7 hs7'
      obtain ⟨gs, hgs⟩ : ∃ x, x = w.heap.size + 1 + 1 + 1 + 1 + 1 + 1 := ⟨_, rfl⟩
      obtain ⟨gg, hgg⟩ : ∃ x, x = w.heap.size + 1 + 1 + 1 + 1 + 1 := ⟨_, rfl⟩
      obtain ⟨gm, hgm⟩ : ∃ x, x = w.heap.size + 1 + 1 + 1 + 1 := ⟨_, rfl⟩
      obtain ⟨gob, hgob⟩ : ∃ x, x = w.heap.size + 1 + 1 + 1 := ⟨_, rfl⟩
      obtain ⟨gl, hgl⟩ : ∃ x, x = w.heap.size + 1 + 1 := ⟨_, rfl⟩
      obtain ⟨go, hgo⟩ : ∃ x, x = w.heap.size + 1 := ⟨_, rfl⟩
      obtain ⟨gd, hgd⟩ : ∃ x, x = w.heap.size := ⟨_, rfl⟩
      have K7 := hid ((((((hk1.trans hk2 (by simp)).trans hk3 (by simp)).trans hk4 (by simp)).trans hk5 (by simp)).trans hk6 (by simp)).trans hk7 (by simp))
      have M0 : Hid (MSt V w7.heap.size w7 gd go gl gob gm gg gs 0 (fun _ => .slice none 0 0)) := by
        rw [hgd, hgo, hgl, hgob, hgm, hgg, hgs]
        refine ⟨⟨_, (((((hr1.kp hk2 (by simp)).kp hk3 (by simp)).kp hk4 (by simp)).kp hk5 (by simp)).kp hk6 (by simp)).kp hk7 (by simp)⟩, ⟨_, ((((hr2.kp hk3 (by simp)).kp hk4 (by simp)).kp hk5 (by simp)).kp hk6 (by simp)).kp hk7 (by simp)⟩, ⟨_, (((hr3.kp hk4 (by simp)).kp hk5 (by simp)).kp hk6 (by simp)).kp hk7 (by simp)⟩, ⟨_, ((hr4.kp hk5 (by simp)).kp hk6 (by simp)).kp hk7 (by simp)⟩, ⟨_, (hr5.kp hk6 (by simp)).kp hk7 (by simp)⟩, ?_, ?_, fun i h => by omega, fun i h => by omega⟩
        · exact (hr6.kp hk7 (by simp)).congr (fun i _ => by simp)
        · exact hr7.congr (fun i _ => by simp)
      have HSEP := hid (sep7_of hs7' hgs hgg hgm hgob hgl hgo hgd)
      rw [← hgs, ← hgg, ← hgm, ← hgob, ← hgl, ← hgo, ← hgd]
      clear hr1 hr2 hr3 hr4 hr5 hr6 hr7 hk1 hk2 hk3 hk4 hk5 hk6 hk7 hs1' hs2' hs3' hs4' hs5' hs6' hs7' hgs hgg hgm hgob hgl hgo hgd
      go_wp2
      go_loopw [26] (fun i wr => ∃ (k : Nat) (sv : Nat → Value), k ≤ V.C ∧ i = .int .i64 k ∧ MSt V w7.heap.size wr gd go gl gob gm gg gs k sv ∧ w7.heap.size ≤ wr.heap.size ∧ Kp [] w wr) (fun i _ => V.C - (intOf i).toNat)
      case atStart => exact ⟨0, _, by omega, rfl, M0.out, Nat.le_refl _, K7.out⟩
      case round =>
        clear M0 K7
        obtain ⟨k, sv, hk, rfl, hM, hW, hkp⟩ := hrel
        have HM := hid hM
        have HK := hid hkp
        by_cases hlt : k < V.C
        · obtain ⟨Fd, hFd⟩ := hM.d
          have HFd := hid hFd
          clear hM hkp hFd
          go_wp2_with fail
          refine (decode_calls k V.s V.m gd V.m Fd wr hs1 hs2 (by omega) (by omega) HFd.out).mono ?_
          rintro e w8 ⟨rfl, hd8, k8⟩
          have HD8 := hid hd8
          have K8 := hid k8
          clear hd8 k8
          go_wp2_with fail
          refine (sameBelow_calls V.m gd V.m V.md (fun j => ((dg V.s V.m k j : Nat) : Int)) w8 hm1 (by omega) (fun i h => HD8.out.cell h)).mono ?_
          rintro e w9 ⟨rfl, q9, hw9⟩
          have hgk : sbB V.m V.md (fun j => ((dg V.s V.m k j : Nat) : Int)) = goodC V k := by
            unfold sbB goodC goodD
            rw [decide_eq_decide]
            constructor
            · rintro ⟨a, b⟩
              exact ⟨fun j hj => by have := a j hj; dsimp only at this; omega, b⟩
            · rintro ⟨a, b⟩
              exact ⟨fun j hj => by have := a j hj; dsimp only; omega, b⟩
          rw [hgk]
          have HD9 : Hid (DRow w9 gd V.m (dg V.s V.m k)) := by rw [hw9]; exact HD8.out.drewN _
          have K9 : Hid (Kp [gd] wr w9) := by rw [hw9]; exact K8.out.drewN _
          clear hw9 hgk HD8 K8 HFd
          have hcg := K9.out.cell' (HM.out.g.cell hlt) (show gg ∉ [gd] by simp [HSEP.out.e5])
          have hfg : w9.frozen? ⟨gg, k, none⟩ = false := (HM.out.g.kp K9.out (show gg ∉ [gd] by simp [HSEP.out.e5])).frozen k
          obtain ⟨Fm, hFm⟩ := HM.out.m
          have HG9 := hid (HM.out.g.kp K9.out (show gg ∉ [gd] by simp [HSEP.out.e5]))
          go_wp2
          obtain ⟨wA, hwA⟩ : ∃ wA, wA = w9.setCell ⟨gg, k, none⟩ (.bool (goodC V k)) := ⟨_, rfl⟩
          have kA : Kp [gg] w9 wA := by rw [hwA]; exact Kp.set _ _ _ _
          have HGA : Hid (Row wA gg 4 V.C (fun i => .bool (if i < k + 1 then goodC V i else false))) := by
            rw [hwA]
            refine (HG9.out.set k _).congr (fun i _ => ?_)
            by_cases e : i = k
            · subst e; simp
            · by_cases e2 : i < k
              · have e3 : i < k + 1 := by omega
                simp [e, e2, e3]
              · have e3 : ¬ i < k + 1 := by omega
                simp [e, e2, e3]
          rw [← hwA]
          have KA := hid ((K9.out.weaken (S' := [gd, gg]) (by simp)).trans kA (by simp))
          have HDA : Hid (DRow wA gd V.m (dg V.s V.m k)) := HD9.out.kp kA (by simp [HSEP.out.e5])
          have HmA := hid (hFm.kp KA.out (by simp [HSEP.out.e4, HSEP.out.e5]))
          have KWA := hid (HK.out.trans KA.out (by simp [HSEP.out.e0, HSEP.out.e5]))
          clear hwA kA HG9 HD9 K9 hcg hfg hFm
          go_loopw [27] (fun i wq => ∃ q : Nat, q ≤ V.m ∧ i = .int .i64 q ∧ Row wq gm 3 V.m (fun j => if j < q then .int .i64 0 else Fm j) ∧ Kp [gm] wA wq) (fun i _ => V.m - (intOf i).toNat)
          case atStart => exact ⟨0, by omega, rfl, HmA.out.congr (fun j _ => by simp), Kp.refl _ _⟩
          case round =>
            obtain ⟨q, hq, rfl, hr, hkq⟩ := hrel
            have HR := hid hr
            have HKq := hid hkq
            by_cases hlq : q < V.m
            · have hc := hr.cell hlq
              have hf := hr.frozen q
              clear hr hkq
              go_wp2
              go_roundw
              case rel =>
                refine ⟨q + 1, by omega, by go_num, (HR.out.set q _).congr (fun j _ => ?_), HKq.out.setCell (.inl (by simp)) _⟩
                by_cases e : j = q
                · simp [e]
                · by_cases e2 : j < q
                  · have e3 : j < q + 1 := by omega
                    simp [e, e2, e3]
                  · have e3 : ¬ j < q + 1 := by omega
                    simp [e, e2, e3]
              case measure => simp [intOf]; omega
            · obtain rfl : V.m = q := by omega
              have HmB : Hid (IRow wr gm V.m (fun _ => 0)) := hr.congr (fun j hj => by simp [hj])
              have KB := hid ((KA.out.weaken (S' := [gd, gg, gm]) (by simp)).trans hkq (by simp))
              have HDB : Hid (DRow wr gd V.m (dg V.s V.m k)) := HDA.out.kp hkq (by simp [HSEP.out.e4])
              have HGB := hid (HGA.out.kp hkq (by simp [HSEP.out.e4, HSEP.out.e5]))
              have KWB := hid (KWA.out.trans hkq (by simp [HSEP.out.e0, HSEP.out.e4]))
              have hlB : ∃ F, Row wr gl 3 V.ml F := by obtain ⟨F, h⟩ := HM.out.l; exact ⟨F, h.kp KB.out (by simp [HSEP.out.e2, HSEP.out.e4, HSEP.out.e5])⟩
              have hobB : ∃ F, Row wr gob 3 V.n F := by obtain ⟨F, h⟩ := HM.out.ob; exact ⟨F, h.kp KB.out (by simp [HSEP.out.e3, HSEP.out.e4, HSEP.out.e5])⟩
              have HlB := hid hlB
              have HobB := hid hobB
              clear hr hkq HR HKq hlB hobB HmA HDA HGA KA KWA
              go_wp2
              go_loopw [28] (fun i wq => ∃ (t : Nat) (M : Nat → Nat), t ≤ T ∧ i = .int .i64 t ∧ IRow wq gm V.m M ∧ (∀ j, j < V.m → BitsOf (M j) (Can V (dg V.s V.m k) t j)) ∧ (∃ F, Row wq gl 3 V.ml F) ∧ (∃ F, Row wq gob 3 V.n F) ∧ Kp [gm, gl, gob] wr wq) (fun i _ => T - (intOf i).toNat)
              case atStart => exact ⟨0, _, by omega, rfl, HmB.out, fun j _ => BitsOf.none V _ j, HlB.out, HobB.out, Kp.refl _ _⟩
              case round =>
                obtain ⟨t, M, ht, rfl, hm, hb, ⟨Fl, hl⟩, ⟨Fo, ho⟩, hkt⟩ := hrel
                have HMt := hid hm
                have HBt := hid hb
                have HLt := hid hl
                have HOt := hid ho
                have HKt := hid hkt
                clear hm hb hl ho hkt HmB HlB HobB
                by_cases hlt4 : t < T
                · go_wp2_with fail
                  refine (decode_calls t V.s V.ml gl V.ml Fl _ hs1 hs2 (by omega) (by omega) HLt.out).mono ?_
                  rintro e w20 ⟨rfl, hd20, k20⟩
                  have HL20 := hid hd20
                  have HM20 : Hid (IRow w20 gm V.m M) := HMt.out.kp k20 (by simp [HSEP.out.e4, HSEP.out.e2])
                  have HO20 := hid (HOt.out.kp k20 (by simp [HSEP.out.e3, HSEP.out.e2]))
                  have HK20 := hid (HKt.out.trans k20 (by simp))
                  clear hd20 k20 HMt HOt HKt HLt
                  have KW20 := hid (KWB.out.trans HK20.out (by simp [HSEP.out.e0, HSEP.out.e2, HSEP.out.e3, HSEP.out.e4]))
                  have HD20 : Hid (DRow w20 gd V.m (dg V.s V.m k)) := HDB.out.kp HK20.out (by simp [HSEP.out.e2, HSEP.out.e3, HSEP.out.e4])
                  have HI20 := hid (HI.out.kp KW20.out (by simp) (by simp) (by simp))
                  have hkgob : ¬ kb = gob := by have h1 := HSEP.out.e0; have h2 := HSEP.out.e3; omega
                  have hlgob : ¬ lb = gob := by have h1 := HSEP.out.e0; have h2 := HSEP.out.e3; omega
                  have hngob : ¬ nb = gob := by have h1 := HSEP.out.e0; have h2 := HSEP.out.e3; omega
                  have hkgm : ¬ kb = gm := by have h1 := HSEP.out.e0; have h2 := HSEP.out.e4; omega
                  have hngm : ¬ nb = gm := by have h1 := HSEP.out.e0; have h2 := HSEP.out.e4; omega
                  have hdgob : ¬ gd = gob := by have h2 := HSEP.out.e3; omega
                  have hlgob2 : ¬ gl = gob := by have h1 := HSEP.out.e2; have h2 := HSEP.out.e3; omega
                  have hmgob : ¬ gm = gob := by have h1 := HSEP.out.e4; have h2 := HSEP.out.e3; omega
                  go_wp2
                  go_loopw [29] (fun i wq => ∃ q : Nat, q ≤ V.m ∧ i = .int .i64 q ∧ Row wq gob 3 V.n (fun u => if V.fb u = false ∧ cw V.fb false u < q then .int .i64 (dg V.s V.m k (cw V.fb false u) : Nat) else Fo u) ∧ Kp [gob] w20 wq) (fun i _ => V.m - (intOf i).toNat)
                  case atStart => exact ⟨0, by omega, rfl, HO20.out.congr (fun u _ => by simp), Kp.refl _ _⟩
                  case round =>
                    obtain ⟨q, hq, rfl, hr, hkq⟩ := hrel
                    have HRq := hid hr
                    have HKq := hid hkq
                    by_cases hlq : q < V.m
                    · obtain ⟨u, hu⟩ : ∃ u, u = nth V.fb false V.n q := ⟨_, rfl⟩
                      have hun := G.cor hlq
                      have hur : cw V.fb false (nth V.fb false V.n q) = q := cw_nth (by rw [← G.hm]; exact hlq)
                      have hck := hkq.cell' (HI20.out.cor q hlq) (by simpa using hkgob)
                      have hcd := hkq.cell' (HD20.out.cell hlq) (by simpa using hdgob)
                      rw [← hu] at hun hur hck
                      have hcu := hr.cell hun.1
                      have hfu := hr.frozen u
                      have hun1 := hun.1
                      have hfb := hun.2
                      have HU := hid hu
                      clear hr hkq hu hun
                      go_wp2
                      go_region
                      all_goals
                        go_wp2
                        refine ⟨⟨q + 1, by omega, by go_num, ((HRq.out.set u _).drew).congr (fun v hv => ?_), (HKq.out.setCell (.inl (by simp)) _).drew⟩, by simp [intOf]; omega⟩
                        by_cases e : v = u
                        · subst e
                          simp [hfb, hur]
                        · by_cases hv2 : V.fb v = false
                          · have hne : cw V.fb false v ≠ q := fun e2 => e (by rw [HU.out, ← e2]; exact (nth_cw hv hv2).symm)
                            have hiff : (cw V.fb false v < q + 1) ↔ (cw V.fb false v < q) := by omega
                            simp [e, hiff]
                          · simp [e, hv2]
                    · obtain rfl : V.m = q := by omega
                      have HR5 : Hid (Row wr gob 3 V.n (fun u => if V.fb u = true then (if cw V.fb true u < 0 then .int .i64 (dg V.s V.ml t (cw V.fb true u) : Nat) else Fo u) else .int .i64 (dg V.s V.m k (cw V.fb false u) : Nat))) := hr.congr (fun u hu => by
                        cases e : V.fb u
                        · have h1 := cw_lt hu e
                          rw [← G.hm] at h1
                          simp [h1]
                        · simp)
                      have HL5 : Hid (DRow wr gl V.ml (dg V.s V.ml t)) := HL20.out.kp hkq (by simpa using hlgob2)
                      have HI5 := hid (HI20.out.kp hkq (by simpa using hngob) (by simpa using hkgob) (by simpa using hlgob))
                      have HM5 : Hid (IRow wr gm V.m M) := HM20.out.kp hkq (by simpa using hmgob)
                      have K5 := hid (HK20.out.trans hkq (by simp))
                      clear hr hkq HRq HKq HO20 HL20 HM20 HI20 HD20 KW20 HK20
                      go_wp2
                      go_loopw [30] (fun i wq => ∃ q : Nat, q ≤ V.ml ∧ i = .int .i64 q ∧ Row wq gob 3 V.n (fun u => if V.fb u = true then (if cw V.fb true u < q then .int .i64 (dg V.s V.ml t (cw V.fb true u) : Nat) else Fo u) else .int .i64 (dg V.s V.m k (cw V.fb false u) : Nat)) ∧ Kp [gob] wr wq) (fun i _ => V.ml - (intOf i).toNat)
                      case atStart => exact ⟨0, by omega, rfl, HR5.out, Kp.refl _ _⟩
                      case round =>
                        obtain ⟨q, hq, rfl, hr, hkq⟩ := hrel
                        have HRq := hid hr
                        have HKq := hid hkq
                        by_cases hlq : q < V.ml
                        · obtain ⟨u, hu⟩ : ∃ u, u = nth V.fb true V.n q := ⟨_, rfl⟩
                          have hun := G.lia hlq
                          have hur := G.lrank hlq
                          have hla := (HI5.out.lia (by omega)).1
                          have hck := hkq.cell' ((HI5.out.lia (by omega)).2 q hlq) (by simpa using hlgob)
                          have hcd := hkq.cell' (HL5.out.cell hlq) (by simpa using hlgob2)
                          rw [← hu] at hun hur hck
                          have hcu := hr.cell hun.1
                          have hfu := hr.frozen u
                          have hun1 := hun.1
                          have hfb := hun.2
                          have HU := hid hu
                          clear hr hkq hu hun
                          rw [hla]
                          go_wp2
                          go_region
                          all_goals
                            go_wp2
                            refine ⟨⟨q + 1, by omega, by go_num, ((HRq.out.set u _).drew).congr (fun v hv => ?_), (HKq.out.setCell (.inl (by simp)) _).drew⟩, by simp [intOf]; omega⟩
                            by_cases e : v = u
                            · subst e
                              simp [hfb, hur]
                            · by_cases hv2 : V.fb v = true
                              · have hne : cw V.fb true v ≠ q := fun e2 => e (by rw [HU.out, ← e2]; exact (nth_cw hv hv2).symm)
                                have hiff : (cw V.fb true v < q + 1) ↔ (cw V.fb true v < q) := by omega
                                simp [e, hiff]
                              · simp [e, hv2]
                        · obtain rfl : V.ml = q := by omega
                          have HR6 : Hid (DRow wr gob V.n (see V (dg V.s V.m k) t)) := hr.congr (fun u hu => by
                            unfold see
                            cases e : V.fb u
                            · simp
                            · have h1 := cw_lt hu e
                              rw [← G.hml] at h1
                              simp [h1])
                          have HI6 := hid (HI5.out.kp hkq (by simpa using hngob) (by simpa using hkgob) (by simpa using hlgob))
                          have HM6 : Hid (IRow wr gm V.m M) := HM5.out.kp hkq (by simpa using hmgob)
                          have HL6 : Hid (DRow wr gl V.ml (dg V.s V.ml t)) := HL5.out.kp hkq (by simpa using hlgob2)
                          have K6 := hid (K5.out.trans hkq (by simp))
                          have HP6 : Hid (∀ u, u ≤ V.n → ix V.s (see V (dg V.s V.m k) t) u < 1048576) := fun u hu => by
                            have h1 := ix_lt (s := V.s) (d := see V (dg V.s V.m k) t) (m := u) (fun j hj => see_lt G (dgs G k) t (by omega))
                            have h2 : V.s ^ u ≤ V.s ^ V.n := Nat.pow_le_pow_right hs1 hu
                            have h3 := G.pn
                            omega
                          clear hr hkq HRq HKq HR5 HI5 HM5 HL5 K5
                          go_wp2
                          go_loop [31, 32] (fun a i => ∃ u : Nat, u ≤ V.n ∧ i = .int .i64 u ∧ a = .int .i64 (ix V.s (see V (dg V.s V.m k) t) u : Nat)) (fun _ i => V.n - (intOf i).toNat)
                          case atStart => exact ⟨0, by omega, rfl, rfl⟩
                          case round =>
                            obtain ⟨u, hu, rfl, rfl⟩ := hrel
                            by_cases hul : u < V.n
                            · have hcu := HR6.out.cell hul
                              have hb0 := HP6.out u hu
                              have hb1 := HP6.out (u + 1) (by omega)
                              have hxu := see_lt G (dgs G k) t hul
                              have e1 : ix V.s (see V (dg V.s V.m k) t) (u + 1) = ix V.s (see V (dg V.s V.m k) t) u * V.s + see V (dg V.s V.m k) t u := rfl
                              rw [e1] at hb1
                              clear e1
                              generalize hq : ix V.s (see V (dg V.s V.m k) t) u = q at *
                              generalize hx : see V (dg V.s V.m k) t u = x at *
                              have HQ' := hid hq
                              have HX' := hid hx
                              clear hq hx
                              have hm0 : (0 : Int) ≤ (q : Int) * (V.s : Int) := by rw [← Int.natCast_mul]; omega
                              have hm1' : (q : Int) * (V.s : Int) ≤ 1048576 := by rw [← Int.natCast_mul]; omega
                              clear hb1
                              go_wp2
                              go_round
                              case rel => exact ⟨u + 1, by omega, by go_num, by show _ = Value.int .i64 ((ix V.s (see V (dg V.s V.m k) t) u * V.s + see V (dg V.s V.m k) t u : Nat) : Int); rw [HQ'.out, HX'.out, Int.natCast_add, Int.natCast_mul]⟩
                              case measure => simp [intOf]; omega
                            · obtain rfl : V.n = u := by omega
                              have hb0 := HP6.out V.n (Nat.le_refl _)
                              obtain ⟨q, hq⟩ : ∃ q, q = ix V.s (see V (dg V.s V.m k) t) V.n := ⟨_, rfl⟩
                              rw [← hq] at hb0
                              rw [← hq]
                              have HQ2 := hid hq
                              clear hq
                              go_wp2
                              go_loopw [33] (fun i wq => ∃ j : Nat, j ≤ V.m ∧ i = .int .i64 j ∧ IRow wq gm V.m (fun r => if r < j then M r ||| 2 ^ tgt V (dg V.s V.m k) t r else M r) ∧ Kp [gm] wr wq) (fun i _ => V.m - (intOf i).toNat)
                              case atStart => exact ⟨0, by omega, rfl, HM6.out.congr (fun r _ => by simp), Kp.refl _ _⟩
                              case round =>
                                obtain ⟨j, hj, rfl, hr, hkq⟩ := hrel
                                have HRq := hid hr
                                have HKq := hid hkq
                                by_cases hjl : j < V.m
                                · have hT' := tgt_lt G (dgs G k) t hjl
                                  have hck := hkq.cell' (HI6.out.cor j hjl) (by simpa using hkgm)
                                  have hun := (G.cor hjl).1
                                  have hB := HBt.out j hjl
                                  rw [← HQ2.out] at hT'
                                  have hnx := hkq.cell' (HI6.out.next _ hT'.1) (by simpa using hngm)
                                  have htg : V.nx (q * V.n + nth V.fb false V.n j) = tgt V (dg V.s V.m k) t j := by rw [HQ2.out]; rfl
                                  rw [htg] at hnx
                                  have hT1 := hT'.1
                                  have hT2 := hT'.2
                                  have hB1 := hB.1
                                  have hcm' := hr.cell hjl
                                  have hfm := hr.frozen j
                                  simp only [show ¬ j < j by omega, if_false] at hcm'
                                  have HOr := hid (bits_or_i64_nat (M j) (2 ^ tgt V (dg V.s V.m k) t j) hB1 (Nat.pow_lt_pow_right (n := 16) (by omega) (by omega)))
                                  generalize hr' : tgt V (dg V.s V.m k) t j = r at *
                                  generalize hu' : nth V.fb false V.n j = u at *
                                  generalize hmk : M j = mk at *
                                  have hm0 : (0 : Int) ≤ (q : Int) * (V.n : Int) := by rw [← Int.natCast_mul]; omega
                                  have hm1' : (q : Int) * (V.n : Int) + (u : Int) < V.ln := by rw [← Int.natCast_mul]; omega
                                  have HR' := hid hr'
                                  have HMK := hid hmk
                                  clear hr hkq hT' hB htg hr' hu' hmk
                                  go_wp2
                                  go_region
                                  all_goals go_wp2
                                  have e1 : bits BinOp.or IntKind.i64 (mk : Int) (wrap64 ((2 : Int) ^ r)) = ((mk ||| 2 ^ r : Nat) : Int) := by
                                    rw [w64_pow (r := r) (by omega)]
                                    exact HOr.out
                                  rw [e1]
                                  refine ⟨⟨j + 1, by omega, by go_num, ((HRq.out.set j _).drew).congr (fun c hc => ?_), (HKq.out.setCell (.inl (by simp)) _).drew⟩, by simp [intOf]; omega⟩
                                  dsimp only
                                  by_cases e : c = j
                                  · subst e
                                    simp [HMK.out, HR'.out]
                                  · by_cases e2 : c < j
                                    · have e3 : c < j + 1 := by omega
                                      simp [e, e2, e3]
                                    · have e3 : ¬ c < j + 1 := by omega
                                      simp [e, e2, e3]
                                · obtain rfl : V.m = j := by omega
                                  have HBn : Hid (∀ j, j < V.m → BitsOf (M j ||| 2 ^ tgt V (dg V.s V.m k) t j) (Can V (dg V.s V.m k) (t + 1) j)) := fun j hj => by
                                    have h1 := (HBt.out j hj).or (b := tgt V (dg V.s V.m k) t j) (by have := (tgt_lt G (dgs G k) t hj).2; omega)
                                    refine ⟨h1.1, fun c => ?_⟩
                                    rw [h1.2 c]
                                    constructor
                                    · rintro (⟨t', h2, h3⟩ | h2)
                                      · exact ⟨t', by omega, h3⟩
                                      · exact ⟨t, by omega, h2.symm⟩
                                    · rintro ⟨t', h2, h3⟩
                                      by_cases e : t' = t
                                      · subst e; exact .inr h3.symm
                                      · exact .inl ⟨t', by omega, h3⟩
                                  have HRn : Hid (IRow wr gm V.m (fun j => M j ||| 2 ^ tgt V (dg V.s V.m k) t j)) := hr.congr (fun j hj => by simp [hj])
                                  have HLn := hid (HL6.out.kp hkq (by simp [HSEP.out.e2, HSEP.out.e4]))
                                  have HOn := hid (HR6.out.kp hkq (by simp [HSEP.out.e3, HSEP.out.e4]))
                                  have Kn := hid (K6.out.trans hkq (by simp))
                                  clear hr hkq
                                  go_wp2
                                  go_roundw
                                  case rel => exact ⟨t + 1, _, by omega, by go_num, HRn.out, HBn.out, ⟨_, HLn.out⟩, ⟨_, HOn.out⟩, Kn.out⟩
                                  case measure => simp [intOf]; omega
                · obtain rfl : T = t := by omega
                  have HBT : Hid (∀ j, j < V.m → BitsOf (M j) (Can V (dg V.s V.m k) (V.s ^ V.ml) j)) := by rw [← HQ.out]; exact HBt.out
                  have KWt := hid (KWB.out.trans HKt.out (by simp [HSEP.out.e0, HSEP.out.e2, HSEP.out.e3, HSEP.out.e4]))
                  have KT := hid ((KB.out.weaken (S' := [gd, gg, gm, gl, gob]) (by simp)).trans HKt.out (by simp))
                  have HGt := hid (HGB.out.kp HKt.out (by simp [HSEP.out.e2, HSEP.out.e3, HSEP.out.e4, HSEP.out.e5]))
                  have hot : ∃ F, Row wr go 3 V.m F := by obtain ⟨F, h⟩ := HM.out.o; exact ⟨F, h.kp KT.out (by simp [HSEP.out.e1, HSEP.out.e2, HSEP.out.e3, HSEP.out.e4, HSEP.out.e5])⟩
                  have HOT := hid hot
                  clear hot
                  go_wp2
                  go_loopw [34, 35] (fun o i wq => ∃ (x : Nat) (a : Option Addr) (c : Nat), x ≤ V.C ∧ i = .int .i64 x ∧ o = .slice a (cw (sB V k) true x) c ∧ Own wq 3 (.slice a (cw (sB V k) true x) c) (cw (sB V k) true x) (fun q => .int .i64 (nth (sB V k) true V.C q : Nat)) ∧ (∀ b ∈ blks (.slice a (cw (sB V k) true x) c), wr.heap.size ≤ b) ∧ (∃ F, Row wq go 3 V.m F) ∧ Kp [go] wr wq) (fun _ i _ => V.C - (intOf i).toNat)
                  case atStart => exact ⟨0, none, 0, by omega, rfl, rfl, Own.nil _ _ _, by simp [blks, Value.ownBlock], HOT.out, Kp.refl _ _⟩
                  case round =>
                    obtain ⟨x, a, c, hx, rfl, rfl, ho, hbk, ⟨Fo, hfo⟩, hkx⟩ := hrel
                    have HO := hid ho
                    have HB := hid hbk
                    have HFo := hid hfo
                    have HKx := hid hkx
                    have hcl := cw_le (fb := sB V k) (want := true) x
                    clear ho hbk hfo hkx
                    by_cases hxl : x < V.C
                    · go_wp2_with fail
                      refine (decode_calls x V.s V.m go V.m Fo _ hs1 hs2 (by omega) (by omega) HFo.out).mono ?_
                      rintro e w30 ⟨rfl, hd30, k30⟩
                      have HD30 := hid hd30
                      have hgob30 : ∀ b ∈ blks (.slice a (cw (sB V k) true x) c), b ∉ [go] := fun b hb hbg => by
                        have h1 := HB.out b hb
                        have h2 := HFo.out.lt
                        have h3 := HOT.out.choose_spec.lt
                        simp at hbg
                        omega
                      have HO30 := hid (HO.out.kp k30 hgob30)
                      have HK30 := hid (HKx.out.trans k30 (by simp))
                      have HM30 : Hid (IRow w30 gm V.m M) := (HMt.out.kp HKx.out (by simp [HSEP.out.e1, HSEP.out.e4])).kp k30 (by simp [HSEP.out.e1, HSEP.out.e4])
                      clear hd30 k30 hgob30 HO HKx HFo
                      go_wp2
                      go_loopw [36, 37] (fun ok i wq => ∃ j q : Nat, j ≤ V.m ∧ i = .int .i64 j ∧ ok = .bool true ∧ (∀ r, r < j → Can V (dg V.s V.m k) (V.s ^ V.ml) r (dg V.s V.m x r)) ∧ wq = w30.drewN q) (fun _ i _ => V.m - (intOf i).toNat)
                      case atStart => exact ⟨0, 0, by omega, rfl, rfl, fun r h => by omega, rfl⟩
                      case round =>
                        obtain ⟨j, q, hj, rfl, rfl, hall, rfl⟩ := hrel
                        have HA := hid hall
                        clear hall
                        by_cases hjl : j < V.m
                        · have hcm := HM30.out.cell hjl
                          have hcd := HD30.out.cell hjl
                          have hB := HBT.out j hjl
                          have hdl := dgs G x j hjl
                          have hB1 := hB.1
                          have hB2 := hB.2 (dg V.s V.m x j)
                          generalize hmk : M j = mk at *
                          generalize hdd : dg V.s V.m x j = dd at *
                          have HDD := hid hdd
                          have hand : bits BinOp.and IntKind.i64 (mk : Int) (wrap64 ((2 : Int) ^ dd)) = ((mk &&& 2 ^ dd : Nat) : Int) := by
                            rw [w64_pow (r := dd) (by omega)]
                            exact bits_and_i64_nat mk (2 ^ dd) hB1 (Nat.pow_lt_pow_right (n := 16) (by omega) (by omega))
                          have HAnd := hid hand
                          have HB2 := hid hB2
                          have hzero := and_pow_zero mk dd
                          clear hB hmk hdd hand hB2
                          obtain ⟨z, hzz⟩ : ∃ z, z = mk &&& 2 ^ dd := ⟨_, rfl⟩
                          rw [← hzz] at HAnd hzero
                          clear hzz
                          cases htb : mk.testBit dd
                          · have hz := hzero.2 htb
                            subst hz
                            have HF : Hid (sB V k x = false) := sB_false hjl (by rw [HDD.out]; intro hc; have := HB2.out.2 hc; rw [htb] at this; cases this)
                            clear hzero htb
                            go_wp2
                            go_quiet (fail)
                            rw [HAnd.out]
                            go_wp2
                            have e1 : cw (sB V k) true (x + 1) = cw (sB V k) true x := by simp [cw, HF.out]
                            exact ⟨⟨x + 1, a, c, by omega, by go_num, by rw [e1], by rw [e1]; exact HO30.out.kp ((Kp.refl [] _).drewN _) (by simp), by rw [e1]; exact HB.out, ⟨_, HD30.out.drewN _⟩, HK30.out.drewN _⟩, by simp [intOf]; omega⟩
                          · have hnz : ((z : Int) == 0) = false := by
                              have : z ≠ 0 := fun e => by rw [hzero.1 e] at htb; cases htb
                              simp; omega
                            have HC : Hid (Can V (dg V.s V.m k) (V.s ^ V.ml) j dd) := HB2.out.1 htb
                            clear hzero htb
                            go_wp2
                            go_quiet (fail)
                            rw [HAnd.out]
                            go_wp2
                            go_roundw
                            case rel => exact ⟨j + 1, _, by omega, by go_num, rfl, fun r hr => by
                              by_cases e : r = j
                              · rw [e, HDD.out]; exact HC.out
                              · exact HA.out r (by omega), rfl⟩
                            case measure => simp [intOf]; omega
                        · obtain rfl : V.m = j := by omega
                          have HT : Hid (sB V k x = true) := sB_true hxl HA.out
                          have HOq : Hid (Own (w30.drewN q) 3 (.slice a (cw (sB V k) true x) c) (cw (sB V k) true x) (fun q => .int .i64 (nth (sB V k) true V.C q : Nat))) := HO30.out.kp ((Kp.refl [] _).drewN _) (by simp)
                          go_wp2_with (at_builtin; refine wpList_append_one rfl (.tmp 204) (.tmp 206) 29 rfl 3 i0 (.int .i64 0) 8 Tryd.underlying29 hi hz0 hz1 hz2 rfl (.slice a (cw (sB V k) true x) c) (cw (sB V k) true x) (fun q => .int .i64 (nth (sB V k) true V.C q : Nat)) rfl (HOq.out.alloc _) w30.heap.size 1 rfl (by rw [nth_cw hxl HT.out]; exact World.cell?_alloc_at _ _ _ _ rfl) rfl (by unfold maxLen; omega) (by omega) ?_; intro v' w31 ho2 hk2 hb2; obtain ⟨a', c', rfl, _⟩ := ho2.elim; have HO2 := hid ho2; have HK2 := hid hk2; have HB2 := hid hb2; clear ho2 hk2 hb2)
                          have e1 : cw (sB V k) true (x + 1) = cw (sB V k) true x + 1 := by simp [cw, HT.out]
                          have hgob : go ∉ blks (.slice a (cw (sB V k) true x) c) := fun hm => by have h1 := HB.out _ hm; have h2 := HOT.out.choose_spec.lt; omega
                          refine ⟨⟨x + 1, a', c', by omega, by go_num, by rw [e1], by rw [e1]; exact HO2.out, ?_, ⟨_, ((HD30.out.drewN q).alloc _).kp HK2.out hgob⟩, ((HK30.out.drewN q).alloc _).trans HK2.out (fun i hi => .inr (HB.out i hi))⟩, by simp [intOf]; omega⟩
                          rw [e1]
                          intro b hb
                          rcases HB2.out b hb with h | h
                          · exact HB.out b h
                          · have h1 := HK30.out.size
                            have h2 : w30.heap.size + 1 ≤ b := by simpa using h
                            omega
                    · obtain rfl : V.C = x := by omega
                      have HSx := hid ((HM.out.s.kp KT.out (by simp [HSEP.out.e2, HSEP.out.e3, HSEP.out.e4, HSEP.out.e5, HSEP.out.e6])).kp HKx.out (by simp [HSEP.out.e1, HSEP.out.e6]))
                      have hcs := HSx.out.cell hlt
                      have hfs := HSx.out.frozen k
                      go_wp2
                      go_roundw
                      case rel =>
                        have n1 : gd ≠ gs := by have := HSEP.out.e6; omega
                        have n2 : go ≠ gs := by have := HSEP.out.e6; have := HSEP.out.e1; omega
                        have n3 : gl ≠ gs := by have := HSEP.out.e6; have := HSEP.out.e2; omega
                        have n4 : gob ≠ gs := by have := HSEP.out.e6; have := HSEP.out.e3; omega
                        have n5 : gm ≠ gs := by have := HSEP.out.e6; have := HSEP.out.e4; omega
                        have n6 : gg ≠ gs := by have := HSEP.out.e6; have := HSEP.out.e5; omega
                        have kS : Kp [gs] _ _ := Kp.set wr gs k (.slice a (cw (sB V k) true V.C) c)
                        have hbig : ∀ b, w7.heap.size ≤ b → b ∉ [gd, gg, gm, gl, gob] ∧ b ∉ [go] ∧ b ∉ [gs] := fun b hb => by
                          have ⟨q0, q1, q2, q3, q4, q5, q6, q7⟩ := HSEP.out
                          simp
                          omega
                        have hW2 : w7.heap.size ≤ wr.heap.size := Nat.le_trans (Nat.le_trans hW KT.out.size) HKx.out.size
                        refine ⟨k + 1, fun i => if i = k then .slice a (cw (sB V k) true V.C) c else sv i, by omega, by go_num, ⟨⟨_, ((HDB.out.kp HKt.out (by simp [HSEP.out.e2, HSEP.out.e3, HSEP.out.e4])).kp HKx.out (by simp [HSEP.out.e1])).kp kS (by simpa using n1)⟩, ⟨_, HFo.out.kp kS (by simpa using n2)⟩, ⟨_, (HLt.out.kp HKx.out (by simp [HSEP.out.e1, HSEP.out.e2])).kp kS (by simpa using n3)⟩, ⟨_, (HOt.out.kp HKx.out (by simp [HSEP.out.e1, HSEP.out.e3])).kp kS (by simpa using n4)⟩, ⟨_, (HMt.out.kp HKx.out (by simp [HSEP.out.e1, HSEP.out.e4])).kp kS (by simpa using n5)⟩, (HGt.out.kp HKx.out (by simp [HSEP.out.e1, HSEP.out.e5])).kp kS (by simpa using n6), ?_, ?_, ?_⟩, Nat.le_trans hW2 kS.size, (KWt.out.trans HKx.out (by simp [HSEP.out.e0, HSEP.out.e1])).trans kS (by simp [HSEP.out.e0, HSEP.out.e6])⟩
                        · refine (HSx.out.set k _).congr (fun i _ => ?_)
                          by_cases e : i = k
                          · simp [e]
                          · by_cases e2 : i < k
                            · have e3 : i < k + 1 := by omega
                              simp [e, e2, e3]
                            · have e3 : ¬ i < k + 1 := by omega
                              simp [e, e2, e3]
                        · intro i hi'
                          by_cases e : i = k
                          · subst e
                            simp only [if_true]
                            exact HO.out.kp kS (fun b hb => (hbig b (Nat.le_trans (Nat.le_trans hW KT.out.size) (HB.out b hb))).2.2)
                          · simp only [if_neg e]
                            have hs := HM.out.sep i (by omega)
                            exact (((HM.out.own i (by omega)).kp KT.out (fun b hb => (hbig b (hs b hb)).1)).kp HKx.out (fun b hb => (hbig b (hs b hb)).2.1)).kp kS (fun b hb => (hbig b (hs b hb)).2.2)
                        · intro i hi' b hb
                          by_cases e : i = k
                          · subst e
                            simp only [if_true] at hb
                            exact Nat.le_trans (Nat.le_trans hW KT.out.size) (HB.out b hb)
                          · simp only [if_neg e] at hb
                            exact HM.out.sep i (by omega) b hb
                      case measure => simp [intOf]; omega
        · obtain rfl : V.C = k := by omega
          have GR := hid hM.g
          have SR := hid hM.s
          have OW := hid hM.own
          have SPb := hid hM.sep
          clear hM hkp HM
          go_upto_region 60 with (at_make; refine wpList_make_row _ rfl _ _ 29 rfl 3 i0 (.int .i64 0) 1 Tryd.underlying29 hi hz0 hz1 _ _ _ _ V.C rfl rfl rfl rfl (by rw [hz2]; omega) (by unfold maxLen; omega) (fun _ => .int .i64 0) (by rw [Nat.mul_one]; exact madeCells_one _ _) ?_; intro w40 hr40 hk40 hs40)
          rw [Nat.mul_one] at hr40
          obtain ⟨gp, hgp⟩ : ∃ gp, gp = wr.heap.size := ⟨_, rfl⟩
          rw [← hgp] at hr40
          rw [← hgp]
          have HRp := hid hr40
          have G40 : Hid (∀ i, i < V.C → w40.cell? ⟨gg, i, none⟩ = some (.bool (goodC V i))) := fun i hi' => by
            have h := (GR.out.kp hk40 (by simp)).cell hi'
            rw [h]; simp [hi']
          have S40 : Hid (∀ i, i < V.C → w40.cell? ⟨gs, i, none⟩ = some (sv i)) := fun i hi' => by
            have h := (SR.out.kp hk40 (by simp)).cell hi'
            rw [h]; simp [hi']
          have O40 : Hid (∀ i, i < V.C → Own w40 3 (sv i) (cw (sB V i) true V.C) (fun q => .int .i64 (nth (sB V i) true V.C q : Nat))) := fun i hi' => (OW.out i hi').kp hk40 (by simp)
          have OL : Hid (∀ i, i < V.C → gp ∉ blks (sv i)) := fun i hi' hm => by have := (OW.out i hi').lt gp hm; omega
          have hggp : ¬ gg = gp := by have := GR.out.lt; omega
          have hgsp : ¬ gs = gp := by have := SR.out.lt; omega
          have hgpw : w.heap.size ≤ gp := by have := HK.out.size; omega
          have K40 := hid (HK.out.trans hk40 (by simp))
          have HGP := hid hgp
          clear hr40 hk40 hs40 hgp GR SR OW SPb
          go_wp2
          go_loopw [39] (fun i wq => ∃ q : Nat, q ≤ V.C ∧ i = .int .i64 q ∧ Row wq gp 3 V.C (fun i => .int .i64 (if i < q then lay D 0 i else 0)) ∧ Kp [gp] w40 wq) (fun i _ => V.C - (intOf i).toNat)
          case atStart => exact ⟨0, by omega, rfl, HRp.out.congr (fun i _ => by simp), Kp.refl _ _⟩
          case round =>
            obtain ⟨q, hq, rfl, hr, hkq⟩ := hrel
            have HRq := hid hr
            have HKq := hid hkq
            by_cases hlq : q < V.C
            · have hc := hr.cell hlq
              have hf := hr.frozen q
              have hcg := hkq.cell' (G40.out q hlq) (by simpa using hggp)
              have hv := FIN.out.vals hlq
              have hggp' : ¬ gp = gg := fun e => hggp e.symm
              clear hr hkq
              cases hgq : goodC V q
              · rw [hgq] at hcg
                have HL : Hid (lay D 0 q = -1) := by
                  show lay D 0 q = -1
                  unfold lay
                  rw [if_neg]
                  rintro ⟨h1, h2⟩
                  have := hv.2.1 (by omega)
                  rw [hgq] at this
                  cases this
                clear hv hgq
                go_wp2
                go_roundw
                case rel =>
                  refine ⟨q + 1, by omega, by go_num, (HRq.out.set q _).congr (fun i _ => ?_), HKq.out.setCell (.inl (by simp)) _⟩
                  by_cases e : i = q
                  · subst e; simp [HL.out]
                  · by_cases e2 : i < q
                    · have e3 : i < q + 1 := by omega
                      simp [e, e2, e3]
                    · have e3 : ¬ i < q + 1 := by omega
                      simp [e, e2, e3]
                case measure => simp [intOf]; omega
              · rw [hgq] at hcg
                have HL : Hid (lay D 0 q = 0) := by
                  have := hv.2.2 hgq
                  show lay D 0 q = 0
                  unfold lay
                  rw [this]
                  simp
                have hc2 : ∃ v, (wr.setCell ⟨gp, q, none⟩ (.int .i64 (-1))).cell? ⟨gp, q, none⟩ = some v := ⟨_, (HRq.out.set q (.int .i64 (-1))).cell hlq⟩
                obtain ⟨v2, hc2⟩ := hc2
                have hf2 := (HRq.out.set q (.int .i64 (-1))).frozen q
                clear hv hgq
                go_wp2
                go_roundw
                case rel =>
                  refine ⟨q + 1, by omega, by go_num, ((HRq.out.set q _).set q _).congr (fun i _ => ?_), (HKq.out.setCell (.inl (by simp)) _).setCell (.inl (by simp)) _⟩
                  by_cases e : i = q
                  · subst e; simp [HL.out]
                  · by_cases e2 : i < q
                    · have e3 : i < q + 1 := by omega
                      simp [e, e2, e3]
                    · have e3 : ¬ i < q + 1 := by omega
                      simp [e, e2, e3]
                case measure => simp [intOf]; omega
            · obtain rfl : V.C = q := by omega
              have HR0 : Hid (Row wr gp 3 V.C (fun i => .int .i64 (lay D 0 i))) := hr.congr (fun i hi' => by simp [hi'])
              clear hr
              have HK11 := hid hkq
              clear hkq HRq HKq HRp
              go_wp2
              go_loopw [40] (fun i wq => ∃ r : Nat, r ≤ V.C ∧ i = .int .i64 ((r : Int) + 1) ∧ Row wq gp 3 V.C (fun i => .int .i64 (lay D r i)) ∧ Kp [gp] w40 wq) (fun i _ => V.C + 1 - (intOf i).toNat)
              case atStart => exact ⟨0, by omega, rfl, HR0.out, HK11.out⟩
              case round =>
                clear HR0 HK11
                obtain ⟨r, hrC, rfl, hr, hkr⟩ := hrel
                have HRr := hid hr
                have HKr := hid hkr
                by_cases hlr : r < V.C
                · clear hr hkr
                  go_wp2
                  go_loopw [41, 42] (fun o i wq => ∃ (x : Nat) (a : Option Addr) (c : Nat), x ≤ V.C ∧ i = .int .i64 x ∧ o = .slice a (cw (dB D (r + 1)) true x) c ∧ Own wq 3 (.slice a (cw (dB D (r + 1)) true x) c) (cw (dB D (r + 1)) true x) (fun q => .int .i64 (nth (dB D (r + 1)) true V.C q : Nat)) ∧ (∀ b ∈ blks (.slice a (cw (dB D (r + 1)) true x) c), wr.heap.size ≤ b) ∧ Kp [] wr wq) (fun _ i _ => V.C - (intOf i).toNat)
                  case atStart => exact ⟨0, none, 0, by omega, rfl, rfl, Own.nil _ _ _, by simp [blks, Value.ownBlock], Kp.refl _ _⟩
                  case round =>
                    obtain ⟨x, a, c, hx, rfl, rfl, ho, hbk, hkx⟩ := hrel
                    have HO := hid ho
                    have HB := hid hbk
                    have HKx := hid hkx
                    have hcl := cw_le (fb := dB D (r + 1)) (want := true) x
                    clear ho hbk hkx
                    by_cases hxl : x < V.C
                    · have hcx := HKx.out.cell' (HRr.out.cell hxl) (by simp)
                      by_cases hm : lay D r x = -1
                      · rw [hm] at hcx
                        have HOx := ((O40.out x hxl).kp HKr.out (fun b hb => by simp; exact fun e => OL.out x hxl (e ▸ hb))).kp HKx.out (by simp)
                        obtain ⟨ax, cx, esv, hel⟩ := HOx.elim
                        have hcs := HKx.out.cell' (HKr.out.cell' (S40.out x hxl) (by simpa using hgsp)) (by simp)
                        rw [esv] at hcs
                        have HEL := hid hel
                        have HLm := hid hm
                        have hcL := cw_le (fb := sB V x) (want := true) V.C
                        clear HOx hel hm esv
                        go_wp2
                        go_loop [43, 44] (fun al i => ∃ j : Nat, j ≤ cw (sB V x) true V.C ∧ i = .int .i64 j ∧ al = .bool true ∧ (∀ t, t < j → 0 ≤ lay D r (nth (sB V x) true V.C t))) (fun _ i => cw (sB V x) true V.C - (intOf i).toNat)
                        case atStart => exact ⟨0, by omega, rfl, rfl, fun t h => by omega⟩
                        case round =>
                          obtain ⟨j, hj, rfl, rfl, hall⟩ := hrel
                          have HA := hid hall
                          clear hall
                          by_cases hjl : j < cw (sB V x) true V.C
                          · obtain ⟨b, rfl, _, hcells⟩ := HEL.out (by omega)
                            have hcj := hcells j hjl
                            have hny := nth_lt hjl
                            obtain ⟨y, hy⟩ : ∃ y, y = nth (sB V x) true V.C j := ⟨_, rfl⟩
                            rw [← hy] at hcj hny
                            have hcy := HKx.out.cell' (HRr.out.cell hny.1) (by simp)
                            have hyC := hny.1
                            have HSy : Hid (SS V x y) := sB_ss hny.2
                            have HY := hid hy
                            clear hcells hny hy
                            by_cases hneg : lay D r y < 0
                            · have HF : Hid (dB D (r + 1) x = false) := mark_some FIN.out hxl HSy.out hneg
                              go_wp2
                              go_roundw
                              case rel =>
                                have e1 : cw (dB D (r + 1)) true (x + 1) = cw (dB D (r + 1)) true x := by simp [cw, HF.out]
                                exact ⟨x + 1, a, c, by omega, by go_num, by rw [e1], by rw [e1]; exact HO.out, by rw [e1]; exact HB.out, HKx.out⟩
                              case measure => simp [intOf]; omega
                            · go_wp2
                              go_round
                              case rel => exact ⟨j + 1, by omega, by go_num, rfl, fun t ht' => by
                                by_cases e : t = j
                                · rw [e, ← HY.out]; omega
                                · exact HA.out t (by omega)⟩
                              case measure => simp [intOf]; omega
                          · have HT : Hid (dB D (r + 1) x = true) := mark_yes FIN.out hxl HLm.out (fun k' hk' => by
                              have h1 : sB V x k' = true := sB_true hk'.1 hk'.2
                              have h2 := cw_lt (want := true) hk'.1 h1
                              have h3 := HA.out (cw (sB V x) true k') (by omega)
                              rw [nth_cw hk'.1 h1] at h3
                              exact h3)
                            obtain rfl : cw (sB V x) true V.C = j := by omega
                            go_wp2_with (at_builtin; refine wpList_append_one rfl (.tmp 265) (.tmp 267) 29 rfl 3 i0 (.int .i64 0) 8 Tryd.underlying29 hi hz0 hz1 hz2 rfl (.slice a (cw (dB D (r + 1)) true x) c) (cw (dB D (r + 1)) true x) (fun q => .int .i64 (nth (dB D (r + 1)) true V.C q : Nat)) rfl (HO.out.alloc _) wr.heap.size 1 rfl (by rw [nth_cw hxl HT.out]; exact World.cell?_alloc_at _ _ _ _ rfl) rfl (by unfold maxLen; omega) (by omega) ?_; intro v' w41 ho2 hk2 hb2; obtain ⟨a', c', rfl, _⟩ := ho2.elim; have HO2 := hid ho2; have HK2 := hid hk2; have HB2 := hid hb2; clear ho2 hk2 hb2)
                            go_roundw
                            case rel =>
                              have e1 : cw (dB D (r + 1)) true (x + 1) = cw (dB D (r + 1)) true x + 1 := by simp [cw, HT.out]
                              first
                                | refine ⟨x + 1, by omega, by omega, a', c', ⟨rfl, e1.symm, rfl⟩, by rw [e1]; exact HO2.out, ?_, (HKx.out.alloc _).trans HK2.out (fun i hi => .inr (HB.out i hi))⟩
                                | refine ⟨x + 1, by omega, by omega, a', ⟨rfl, c', e1.symm, rfl⟩, by rw [e1]; exact HO2.out, ?_, (HKx.out.alloc _).trans HK2.out (fun i hi => .inr (HB.out i hi))⟩
                                | trace_state
                              rw [e1]
                              intro b hb
                              rcases HB2.out b hb with h | h
                              · exact HB.out b h
                              · have h1 := HKx.out.size
                                have h2 : wr.heap.size + 1 ≤ b := by simpa using h
                                omega
                            case measure => simp [intOf]; omega
                      · have hmb : (lay D r x != -1) = true := by simpa using hm
                        have HF : Hid (dB D (r + 1) x = false) := mark_no hm
                        clear hm
                        go_wp2
                        go_roundw
                        case rel =>
                          have e1 : cw (dB D (r + 1)) true (x + 1) = cw (dB D (r + 1)) true x := by simp [cw, HF.out]
                          exact ⟨x + 1, a, c, by omega, by go_num, by rw [e1], by rw [e1]; exact HO.out, by rw [e1]; exact HB.out, HKx.out⟩
                        case measure => simp [intOf]; omega
                    · obtain rfl : V.C = x := by omega
                      have HKy := hid (HKr.out.trans HKx.out (by simp))
                      have HRy := hid (HRr.out.kp HKx.out (by simp))
                      by_cases hN : cw (dB D (r + 1)) true V.C = 0
                      · rw [hN]
                        have HRl := HRy
                        have HKl := HKy
                        have HEnd : Hid (∀ i, i < V.C → (lay D r i = -1 → D i = -3) ∧ (lay D r i ≠ -1 → lay D r i = D i)) := lay_end FIN.out (lay_stop FIN.out (fun i hi' e => by
                          have h1 : dB D (r + 1) i = true := decide_eq_true e
                          have h2 := cw_lt (want := true) hi' h1
                          omega))
                        clear hN
                        go_wp2
                        go_loopw [46] (fun i wq => ∃ q : Nat, q ≤ V.C ∧ i = .int .i64 q ∧ Row wq gp 3 V.C (fun i => .int .i64 (if i < q then D i else lay D r i)) ∧ Kp [gp] w40 wq) (fun i _ => V.C - (intOf i).toNat)
                        case atStart => exact ⟨0, by omega, rfl, HRl.out.congr (fun i _ => by simp), HKl.out⟩
                        case round =>
                          obtain ⟨q, hq, rfl, hr, hkq⟩ := hrel
                          have HRq := hid hr
                          have HKq := hid hkq
                          by_cases hlq : q < V.C
                          · have hc := hr.cell hlq
                            have hf := hr.frozen q
                            simp only [show ¬ q < q by omega, if_false] at hc
                            have hE := HEnd.out q hlq
                            clear hr hkq
                            by_cases hm : lay D r q = -1
                            · rw [hm] at hc
                              have HE3 : Hid (D q = -3) := hE.1 hm
                              clear hE hm
                              go_wp2
                              go_roundw
                              case rel =>
                                refine ⟨q + 1, by omega, by go_num, (HRq.out.set q _).congr (fun i _ => ?_), HKq.out.setCell (.inl (by simp)) _⟩
                                by_cases e : i = q
                                · subst e; simp [HE3.out]
                                · by_cases e2 : i < q
                                  · have e3 : i < q + 1 := by omega
                                    simp [e, e2, e3]
                                  · have e3 : ¬ i < q + 1 := by omega
                                    simp [e, e2, e3]
                              case measure => simp [intOf]; omega
                            · have hmb : (lay D r q == -1) = false := by simpa using hm
                              have HE4 := hid (hE.2 hm)
                              clear hE hm
                              go_wp2
                              go_roundw
                              case rel =>
                                refine ⟨q + 1, by omega, by go_num, HRq.out.congr (fun i _ => ?_), HKq.out⟩
                                by_cases e : i = q
                                · subst e; simp [HE4.out]
                                · by_cases e2 : i < q
                                  · have e3 : i < q + 1 := by omega
                                    simp [e2, e3]
                                  · have e3 : ¬ i < q + 1 := by omega
                                    simp [e2, e3]
                              case measure => simp [intOf]; omega
                          · obtain rfl : V.C = q := by omega
                            have HRe : Hid (Row wr gp 3 V.C (fun i => .int .i64 (D i))) := hr.congr (fun i hi' => by simp [hi'])
                            clear hr
                            go_wp2
                            go_ret
                            exact ⟨gp, rfl, hgpw, HRe.out, K40.out.trans HKq.out (by simpa using hgpw)⟩
                      · have hNp : 0 < cw (dB D (r + 1)) true V.C := by omega
                        have hNb : ((cw (dB D (r + 1)) true V.C : Int) == 0) = false := by simp; omega
                        obtain ⟨a', c', e', hel⟩ := HO.out.elim
                        cases e'
                        obtain ⟨nk, rfl, hbl, hcells⟩ := hel hNp
                        have HCN := hid hcells
                        have hne : ¬ nk = gp := fun e => by
                          have h1 := HB.out nk (by rw [hbl]; simp)
                          have h2 := HRr.out.lt
                          omega
                        clear hel hcells hbl hN
                        go_wp2
                        go_loopw [45] (fun i wq => ∃ q : Nat, q ≤ cw (dB D (r + 1)) true V.C ∧ i = .int .i64 q ∧ Row wq gp 3 V.C (fun i => .int .i64 (if D i = ((r + 1 : Nat) : Int) ∧ cw (dB D (r + 1)) true i < q then ((r + 1 : Nat) : Int) else lay D r i)) ∧ Kp [gp] wr wq) (fun i _ => cw (dB D (r + 1)) true V.C - (intOf i).toNat)
                        case atStart => exact ⟨0, by omega, rfl, HRy.out.congr (fun i _ => by simp), Kp.refl _ _⟩
                        case round =>
                          obtain ⟨q, hq, rfl, hr, hkq⟩ := hrel
                          have HRq := hid hr
                          have HKq := hid hkq
                          by_cases hlq : q < cw (dB D (r + 1)) true V.C
                          · have hny := nth_lt hlq
                            have hyr := cw_nth hlq
                            have hcn := hkq.cell' (HCN.out q hlq) (by simpa using hne)
                            obtain ⟨y, hy⟩ : ∃ y, y = nth (dB D (r + 1)) true V.C q := ⟨_, rfl⟩
                            rw [← hy] at hny hyr hcn
                            have hcy := hr.cell hny.1
                            have hfy := hr.frozen y
                            have hyC := hny.1
                            have HDy := hid (show D y = ((r + 1 : Nat) : Int) from of_decide_eq_true hny.2)
                            have HYr := hid hyr
                            have HY := hid hy
                            clear hr hkq hny hy hyr
                            go_wp2
                            go_roundw
                            case rel =>
                              refine ⟨q + 1, by omega, by go_num, (HRq.out.set y _).congr (fun i hi' => ?_), HKq.out.setCell (.inl (by simp)) _⟩
                              by_cases e : i = y
                              · subst e
                                simp [HDy.out, HYr.out]
                              · by_cases e2 : D i = ((r + 1 : Nat) : Int)
                                · have e3 : cw (dB D (r + 1)) true i ≠ q := fun h => e (by rw [HY.out, ← h]; exact (nth_cw hi' (decide_eq_true e2)).symm)
                                  have e4 : (cw (dB D (r + 1)) true i < q + 1) ↔ (cw (dB D (r + 1)) true i < q) := by omega
                                  simp only [if_neg e, e4]
                                · simp only [if_neg e]
                                  rw [if_neg (fun h => e2 h.1), if_neg (fun h => e2 h.1)]
                            case measure => simp [intOf]; omega
                          · have HRn : Hid (Row wr gp 3 V.C (fun i => .int .i64 (lay D (r + 1) i))) := hr.congr (fun i hi' => by
                              rw [lay_next]
                              by_cases e2 : D i = ((r + 1 : Nat) : Int)
                              · have h1 := cw_lt (want := true) hi' (show dB D (r + 1) i = true from decide_eq_true e2)
                                rw [if_pos ⟨e2, by omega⟩, if_pos e2]
                              · rw [if_neg (fun h => e2 h.1), if_neg e2])
                            obtain rfl : cw (dB D (r + 1)) true V.C = q := by omega
                            clear hr hkq
                            go_wp2
                            go_roundw
                            case rel => exact ⟨r + 1, by omega, by go_num, HRn.out, HKy.out.trans HKq.out (by simp)⟩
                            case measure => simp [intOf]; omega
                · obtain rfl : V.C = r := by omega
                  have HRl := HRr
                  have HKl := HKr
                  have HEnd : Hid (∀ i, i < V.C → (lay D V.C i = -1 → D i = -3) ∧ (lay D V.C i ≠ -1 → lay D V.C i = D i)) := lay_end FIN.out (fun i hi' h => by have := FIN.out.bound (fun i k _ h => SS.lt i k h) hi'; omega)
                  clear hr hkr
                  go_wp2
                  go_loopw [46] (fun i wq => ∃ q : Nat, q ≤ V.C ∧ i = .int .i64 q ∧ Row wq gp 3 V.C (fun i => .int .i64 (if i < q then D i else lay D V.C i)) ∧ Kp [gp] w40 wq) (fun i _ => V.C - (intOf i).toNat)
                  case atStart => exact ⟨0, by omega, rfl, HRl.out.congr (fun i _ => by simp), HKl.out⟩
                  case round =>
                    obtain ⟨q, hq, rfl, hr, hkq⟩ := hrel
                    have HRq := hid hr
                    have HKq := hid hkq
                    by_cases hlq : q < V.C
                    · have hc := hr.cell hlq
                      have hf := hr.frozen q
                      simp only [show ¬ q < q by omega, if_false] at hc
                      have hE := HEnd.out q hlq
                      clear hr hkq
                      by_cases hm : lay D V.C q = -1
                      · rw [hm] at hc
                        have HE3 : Hid (D q = -3) := hE.1 hm
                        clear hE hm
                        go_wp2
                        go_roundw
                        case rel =>
                          refine ⟨q + 1, by omega, by go_num, (HRq.out.set q _).congr (fun i _ => ?_), HKq.out.setCell (.inl (by simp)) _⟩
                          by_cases e : i = q
                          · subst e; simp [HE3.out]
                          · by_cases e2 : i < q
                            · have e3 : i < q + 1 := by omega
                              simp [e, e2, e3]
                            · have e3 : ¬ i < q + 1 := by omega
                              simp [e, e2, e3]
                        case measure => simp [intOf]; omega
                      · have hmb : (lay D V.C q == -1) = false := by simpa using hm
                        have HE4 := hid (hE.2 hm)
                        clear hE hm
                        go_wp2
                        go_roundw
                        case rel =>
                          refine ⟨q + 1, by omega, by go_num, HRq.out.congr (fun i _ => ?_), HKq.out⟩
                          by_cases e : i = q
                          · subst e; simp [HE4.out]
                          · by_cases e2 : i < q
                            · have e3 : i < q + 1 := by omega
                              simp [e2, e3]
                            · have e3 : ¬ i < q + 1 := by omega
                              simp [e2, e3]
                        case measure => simp [intOf]; omega
                    · obtain rfl : V.C = q := by omega
                      have HRe : Hid (Row wr gp 3 V.C (fun i => .int .i64 (D i))) := hr.congr (fun i hi' => by simp [hi'])
                      clear hr
                      go_wp2
                      go_ret
                      exact ⟨gp, rfl, hgpw, HRe.out, K40.out.trans HKq.out (by simpa using hgpw)⟩
end Go.Proofs.Qxb6615056aDoor

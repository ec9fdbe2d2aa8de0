/-
  THE WALK OF Step (20): one round of the Simulation.
-/
import Derived.Test.Qxb6615056aFmtNewSim
import Derived.Laws.Bits64b
namespace Go.Proofs.Qxb6615056aFmt
open Go.RowKit Go.Tocsin

set_option maxHeartbeats 1600000 in
set_option maxRecDepth 100000 in
theorem nextState_calls (tb nb wb fl n s ln idx v : Nat) (nx : Nat → Nat) (w : World) (hT : TableAt w tb nb wb fl n s ln nx) (hln : ln ≤ 1048576) (hi : idx * n + v < ln) (hb : ∀ i, nx i < 256) :
    Calls Tryf.prog 39 #[.pointer (some ⟨tb, 0, none⟩), .int .i64 idx, .int .i64 v] w fun e w' => e = .returned (.int .i64 (nx (idx * n + v) : Nat)) ∧ ∃ q, w' = w.drewN q := by
  have c0 := hT.c0
  have c2 := hT.c2
  have cx := hT.next.cell hi
  have hbx := hb (idx * n + v)
  have h0 : (0 : Int) ≤ (idx : Int) * (n : Int) := by rw [← Int.natCast_mul]; omega
  have h1 : (idx : Int) * (n : Int) + (v : Int) < (ln : Int) := by rw [← Int.natCast_mul]; omega
  clear hT hb
  go_enter Tryf.func39, Tryf.ntmps39
  go_wp2
  go_quiet (fail)
  go_wp2
  go_ret
  exact ⟨rfl, _, rfl⟩

/-- What a faulty node shows the correct node of rank i: the state of this correct node. -/
def srcOf (fb : Nat → Bool) (n i : Nat) : Nat := if 2 * i < cw fb false n then nth fb false n 0 else nth fb false n (cw fb false n - 1)
/-- The vector that a node observes, the faulty ones shown x. -/
def seenBy (fb : Nat → Bool) (st : Nat → Int) (x : Int) (v : Nat) : Int := if fb v then x else st v
/-- One round: -1 at the faulty nodes, and what the table gives elsewhere. -/
def stepF (n s : Nat) (nx : Nat → Nat) (fb : Nat → Bool) (st : Nat → Int) (v : Nat) : Int :=
  if fb v then -1 else (nx ((num s (seenBy fb st (st (srcOf fb n (cw fb false v)))) n).toNat * n + v) : Nat)

/-- The states of a run. -/
structure StOk (n s : Nat) (fb : Nat → Bool) (st : Nat → Int) : Prop where
  f : ∀ v, v < n → fb v = true → st v = -1
  c : ∀ v, v < n → fb v = false → 0 ≤ st v ∧ st v < s

theorem sumTo_nonneg {f : Nat → Int} : ∀ {n : Nat}, (∀ i, i < n → 0 ≤ f i) → 0 ≤ sumTo f n
  | 0, _ => by simp [sumTo]
  | n + 1, h => by
    have h1 := sumTo_nonneg (n := n) (fun i hi => h i (by omega))
    have h2 := h n (by omega)
    simp only [sumTo]
    omega
theorem sumTo_mono {f : Nat → Int} {n : Nat} (h : ∀ i, i < n → 0 ≤ f i) {k : Nat} (hk : k ≤ n) : 0 ≤ sumTo f k ∧ sumTo f k ≤ sumTo f n := by
  refine ⟨sumTo_nonneg (fun i hi => h i (by omega)), ?_⟩
  induction n with
  | zero => obtain rfl : k = 0 := by omega
            exact Int.le_refl _
  | succ n ih =>
    by_cases e : k = n + 1
    · subst e; exact Int.le_refl _
    · have h1 := ih (fun i hi => h i (by omega)) (by omega)
      have := h n (by omega)
      simp only [sumTo]
      omega

theorem srcOf_lt {fb : Nat → Bool} {n i : Nat} (hi : i < cw fb false n) : srcOf fb n i < n ∧ fb (srcOf fb n i) = false := by
  unfold srcOf
  split
  · exact nth_lt (by omega)
  · exact nth_lt (by omega)

theorem seenBy_ok {n s : Nat} {fb : Nat → Bool} {st : Nat → Int} (h : StOk n s fb st) {x : Int} (hx : 0 ≤ x ∧ x < s) : ∀ v, v < n → 0 ≤ seenBy fb st x v ∧ seenBy fb st x v < s := by
  intro v hv
  unfold seenBy
  cases hb : fb v
  · simpa using h.c v hv hb
  · simpa using hx

/-- The observed number's index lies within the table. -/
theorem idx_lt {n s ln idx v : Nat} (hsh : s ^ n * n = ln) (hi : idx < s ^ n) (hv : v < n) : idx * n + v < ln := by
  have : (idx + 1) * n ≤ s ^ n * n := Nat.mul_le_mul_right _ hi
  rw [Nat.add_mul, Nat.one_mul] at this
  omega

theorem stepF_ok {n s ln : Nat} {nx : Nat → Nat} {fb : Nat → Bool} {st : Nat → Int} (h : StOk n s fb st) (hsh : s ^ n * n = ln) (hnx : ∀ i, i < ln → nx i < s) : StOk n s fb (stepF n s nx fb st) := by
  refine ⟨fun v _ hb => by simp [stepF, hb], fun v hv hb => ?_⟩
  have hr := cw_lt hv hb
  have hs := srcOf_lt hr
  have hx := h.c _ hs.1 hs.2
  have hn := num_bound (s := s) (n := n) (seenBy_ok h hx)
  have := hnx ((num s (seenBy fb st (st (srcOf fb n (cw fb false v)))) n).toNat * n + v) (idx_lt hsh (by omega) hv)
  simp [stepF, hb]
  omega

/-- Step's first loop, k rounds done. -/
structure St1 (w wr : World) (B : SimB) (tb n s : Nat) (fb : Nat → Bool) (num : Int) (st sv : Nat → Int) (lv : Int) (k : Nat) : Prop where
  keep : Kp B.written w wr
  sim : Blk wr B.sb 84 (simL tb B.stb B.mb B.snb B.cb n (cw fb false n) B.ca B.cc (.slice B.fa (cw fb true n) B.fc) num (.slice (some ⟨B.lb, 0, none⟩) 1 1) ((2 ^ Lib.bitLen (s - 1) - 1 : Nat) : Int) ((s - 1 : Nat) : Int))
  rst : Row wr B.stb 3 n (fun v => .int .i64 (st v))
  sent : Row wr B.snb 30 n (fun v => .int .u64 (if v < k ∧ fb v = false then st v else sv v))
  lie : Row wr B.lb 30 1 (fun _ => .int .u64 lv)

theorem St1.skip {w wr : World} {B : SimB} {tb n s : Nat} {fb : Nat → Bool} {num : Int} {st sv : Nat → Int} {lv : Int} {k : Nat} (h : St1 w wr B tb n s fb num st sv lv k) (hb : fb k = true) : St1 w wr B tb n s fb num st sv lv (k + 1) := by
  refine ⟨h.keep, h.sim, h.rst, h.sent.congr (fun v _ => ?_), h.lie⟩
  by_cases e : v = k
  · subst e; simp [hb]
  · have : v < k ↔ v < k + 1 := by omega
    simp [this]

theorem St1.put {w wr : World} {B : SimB} {tb n s : Nat} {fb : Nat → Bool} {num : Int} {st sv : Nat → Int} {lv : Int} {k : Nat} {lo kn fn : Nat} (hs : SimSep lo B kn fn) (h : St1 w wr B tb n s fb num st sv lv k) (hb : fb k = false) :
    St1 w (wr.setCell ⟨B.snb, k, none⟩ (.int .u64 (st k))) B tb n s fb num st sv lv (k + 1) := by
  refine ⟨h.keep.setCell (.inl (by simp [SimB.written])) _, h.sim.other hs.d2 _, h.rst.other hs.d4 _, (h.sent.set k _).congr (fun v _ => ?_), h.lie.other (Ne.symm hs.d6) _⟩
  by_cases e : v = k
  · subst e; simp [hb]
  · have : v < k ↔ v < k + 1 := by omega
    simp [this, e]

theorem St1.drewN {w wr : World} {B : SimB} {tb n s : Nat} {fb : Nat → Bool} {num : Int} {st sv : Nat → Int} {lv : Int} {k : Nat} (h : St1 w wr B tb n s fb num st sv lv k) (q : Nat) : St1 w (wr.drewN q) B tb n s fb num st sv lv k :=
  ⟨h.keep.drewN q, h.sim, h.rst, h.sent, h.lie⟩

/-- The sum over the correct nodes. -/
def D0 (fb : Nat → Bool) (st : Nat → Int) (v : Nat) : Int := if fb v then 0 else st v

/-- Step's second loop: the sent row stands. -/
structure St2 (w wr : World) (B : SimB) (tb n s : Nat) (fb : Nat → Bool) (num : Int) (st sv : Nat → Int) : Prop where
  keep : Kp B.written w wr
  sim : Blk wr B.sb 84 (simL tb B.stb B.mb B.snb B.cb n (cw fb false n) B.ca B.cc (.slice B.fa (cw fb true n) B.fc) num (.slice (some ⟨B.lb, 0, none⟩) 1 1) ((2 ^ Lib.bitLen (s - 1) - 1 : Nat) : Int) ((s - 1 : Nat) : Int))
  st : Row wr B.stb 3 n (fun v => .int .i64 (st v))
  sent : Row wr B.snb 30 n (fun v => .int .u64 (sv v))
  lie : ∃ lv : Int, Row wr B.lb 30 1 (fun _ => .int .u64 lv)

theorem St2.drewN {w wr : World} {B : SimB} {tb n s : Nat} {fb : Nat → Bool} {num : Int} {st sv : Nat → Int} (h : St2 w wr B tb n s fb num st sv) (q : Nat) : St2 w (wr.drewN q) B tb n s fb num st sv :=
  ⟨h.keep.drewN q, h.sim, h.st, h.sent, h.lie⟩

/-- The states while the correct nodes move one after another: the first i have moved. -/
def stI (n s : Nat) (nx : Nat → Nat) (fb : Nat → Bool) (st : Nat → Int) (i : Nat) (v : Nat) : Int :=
  if fb v = false ∧ cw fb false v < i then stepF n s nx fb st v else st v

/-- What is added up while the faulty nodes show x one after another: the first u have. -/
def obsD (fb : Nat → Bool) (st : Nat → Int) (x : Int) (u : Nat) (v : Nat) : Int := if fb v then (if cw fb true v < u then x else 0) else st v

theorem obs_zero (fb : Nat → Bool) (st : Nat → Int) (x : Int) (s n : Nat) : num s (obsD fb st x 0) n = num s (D0 fb st) n := by
  unfold num
  apply sumTo_congr
  intro v _
  simp [obsD, D0]
theorem obs_last (fb : Nat → Bool) (st : Nat → Int) (x : Int) (s n : Nat) : num s (obsD fb st x (cw fb true n)) n = num s (seenBy fb st x) n := by
  unfold num
  apply sumTo_congr
  intro v hv
  cases hb : fb v
  · simp [obsD, seenBy, hb]
  · have := cw_lt hv hb
    simp [obsD, seenBy, hb, this]
theorem obs_succ (fb : Nat → Bool) (st : Nat → Int) (x : Int) (s n u : Nat) (hu : u < cw fb true n) : num s (obsD fb st x (u + 1)) n = num s (obsD fb st x u) n + x * ((s ^ (n - 1 - nth fb true n u) : Nat) : Int) := by
  have h1 := nth_lt hu
  have h2 := cw_nth hu
  rw [← num_put (D := obsD fb st x u) (d := x) h1.1 (by simp [obsD, h1.2, h2])]
  unfold num
  apply sumTo_congr
  intro v hv
  by_cases e : v = nth fb true n u
  · subst e
    simp [obsD, h1.2, h2]
  · have hne : ∀ _ : fb v = true, (cw fb true v < u + 1 ↔ cw fb true v < u) := fun hb => by
      have : cw fb true v ≠ u := fun e2 => e (by rw [← e2]; exact (nth_cw hv hb).symm)
      omega
    simp only [if_neg e]
    cases hb : fb v
    · simp [obsD, hb]
    · simp [obsD, hb, hne hb]
theorem obs_bound {n s : Nat} {fb : Nat → Bool} {st : Nat → Int} (h : StOk n s fb st) {x : Int} (hx : 0 ≤ x ∧ x < s) (hs : 1 ≤ s) (u : Nat) : 0 ≤ num s (obsD fb st x u) n ∧ num s (obsD fb st x u) n < ((s ^ n : Nat) : Int) := by
  apply num_bound
  intro v hv
  unfold obsD
  cases hb : fb v
  · simpa using h.c v hv hb
  · simp
    split
    · exact hx
    · omega

theorem St2.move {w wr : World} {B : SimB} {tb n s : Nat} {fb : Nat → Bool} {num : Int} {st sv : Nat → Int} {nx : Nat → Nat} {i lo kn fn : Nat} (hs : SimSep lo B kn fn) (h : St2 w wr B tb n s fb num (stI n s nx fb st i) sv) (hi : i < cw fb false n) :
    St2 w (wr.setCell ⟨B.stb, nth fb false n i, none⟩ (.int .i64 (stepF n s nx fb st (nth fb false n i)))) B tb n s fb num (stI n s nx fb st (i + 1)) sv := by
  have h1 := nth_lt hi
  have h2 := cw_nth hi
  refine ⟨h.keep.setCell (.inl (by simp [SimB.written])) _, h.sim.other hs.d1 _, (h.st.set _ _).congr (fun v hv => ?_), h.sent.other (Ne.symm hs.d4) _, ⟨_, h.lie.choose_spec.other (Ne.symm hs.d5) _⟩⟩
  by_cases e : v = nth fb false n i
  · subst e
    rw [if_pos rfl]
    simp [stI, h1.2, h2]
  · rw [if_neg e]
    cases hb : fb v
    · have : cw fb false v ≠ i := fun e2 => e (by rw [← e2]; exact (nth_cw hv hb).symm)
      have : (cw fb false v < i + 1 ↔ cw fb false v < i) := by omega
      simp [stI, hb, this]
    · simp [stI, hb]

/-- Behind Show: the lie's word alone is turned. -/
theorem St2.lied {w wr w4 : World} {B : SimB} {tb n s : Nat} {fb : Nat → Bool} {num : Int} {st sv : Nat → Int} {lo kn fn : Nat} {lv : Int} (hs : SimSep lo B kn fn) (h : St2 w wr B tb n s fb num st sv) (k : Kp [B.lb] wr w4) (hl : Row w4 B.lb 30 1 (fun _ => .int .u64 lv)) : St2 w w4 B tb n s fb num st sv :=
  ⟨h.keep.trans k (by simp [SimB.written]), h.sim.kp k (by simpa using hs.d3), h.st.kp k (by simpa using hs.d5), h.sent.kp k (by simpa using hs.d6), ⟨lv, hl⟩⟩

theorem show_method (w : World) : (method 250 67 (.agg #[]) "Show").run Tryf.prog w = .ok (35, .agg #[]) w := by kernel_rfl

theorem and_mask {x L : Nat} (h : x < 2 ^ L) : x &&& (2 ^ L - 1) = x := by
  rw [Nat.and_two_pow_sub_one_eq_mod, Nat.mod_eq_of_lt h]

/-- Behind the last round: the Simulation, one round on. -/
theorem St2.done {w wr : World} {B : SimB} {tb n s lo : Nat} {fb : Nat → Bool} {num num0 : Int} {st sv st00 : Nat → Int} {nx : Nat → Nat} (h0 : SimAt w lo B tb n s fb num0 st00) (hok : StOk n s fb st) (h : St2 w wr B tb n s fb num (stI n s nx fb st (cw fb false n)) sv) :
    SimAt wr lo B tb n s fb num (stepF n s nx fb st) ∧ Kp B.written w wr := by
  refine ⟨⟨h0.sep, h.sim, h.st.congr (fun v hv => ?_), h0.cor.kp h.keep h0.sep.k, h0.fau.kp h.keep h0.sep.f, ⟨sv, h.sent⟩, h0.crash.kp h.keep h0.sep.c, h.lie⟩, h.keep⟩
  cases hb : fb v
  · have := cw_lt hv hb
    simp [stI, hb, this]
  · have := hok.f v hv hb
    simp [stI, stepF, hb, this]

set_option maxHeartbeats 3200000 in
set_option maxRecDepth 100000 in
theorem step_calls (lo tb nb wb fl n s ln : Nat) (B : SimB) (nx : Nat → Nat) (fb : Nat → Bool) (num : Int) (st : Nat → Int) (w : World) (hn1 : 1 ≤ n) (hn : n ≤ 4096) (hs1 : 1 ≤ s) (hs2 : s ≤ 256) (hln : ln ≤ 1048576) (hnum : 0 ≤ num) (hnum2 : num ≤ 1048576)
    (hsh : s ^ n * n = ln) (hnx : ∀ i, i < ln → nx i < s) (hb : ∀ i, nx i < 256) (hT : TableAt w tb nb wb fl n s ln nx) (ht1 : tb < lo) (ht2 : nb < lo) (ht3 : wb < lo) (ht4 : fl < lo) (hS : SimAt w lo B tb n s fb num st) (hst : StOk n s fb st) (hkn1 : 0 < cw fb false n) :
    Calls Tryf.prog 20 #[.pointer (some ⟨B.sb, 0, none⟩)] w fun e w' => e = .returned (.tuple #[]) ∧ SimAt w' lo B tb n s fb (num + 1) (stepF n s nx fb st) ∧ Kp B.written w w' := by
  obtain ⟨sb, stb, mb, snb, cb, lb, ca, cc, fa, fc⟩ := B
  show Calls Tryf.prog 20 #[.pointer (some ⟨sb, 0, none⟩)] w _
  obtain ⟨kb, rfl, hkbl, hkc⟩ : ∃ kb, ca = some ⟨kb, 0, none⟩ ∧ blks (.slice ca (cw fb false n) cc) = [kb] ∧ ∀ i, i < cw fb false n → w.cell? ⟨kb, i, none⟩ = some (.int .i64 (nth fb false n i : Nat)) := by
    obtain ⟨a, cap, e, h⟩ := hS.cor.elim
    obtain ⟨b, e1, e2, e3⟩ := h hkn1
    cases e
    exact ⟨b, e1, e2, e3⟩
  obtain ⟨W, hW⟩ : ∃ W : Nat → Nat, W = fun v => s ^ (n - 1 - v) := ⟨_, rfl⟩
  have hwt : Row w wb 3 n (fun v => .int .i64 (W v : Nat)) := by rw [hW]; exact hT.weights
  obtain ⟨sv, hsv⟩ := hS.sent
  obtain ⟨lv, hlv⟩ := hS.lie
  obtain ⟨Sm, hSm⟩ : ∃ Sm : Nat → Int, Sm = fun k => sumTo (fun v => D0 fb st v * (W v : Int)) k := ⟨_, rfl⟩
  have hD0 : ∀ v, v < n → 0 ≤ D0 fb st v ∧ D0 fb st v < s := fun v hv => by
    unfold D0
    cases hbv : fb v
    · simpa using hst.c v hv hbv
    · simp; omega
  have hSmn : Sm n = Go.Tocsin.num s (D0 fb st) n := by rw [hSm, hW]; rfl
  have hpn : s ^ n ≤ 1048576 := by
    have : s ^ n * 1 ≤ s ^ n * n := Nat.mul_le_mul_left _ hn1
    omega
  have hSb : ∀ k, k ≤ n → 0 ≤ Sm k ∧ Sm k ≤ 1048576 := fun k hk => by
    have h1 := sumTo_mono (f := fun v => D0 fb st v * (W v : Int)) (n := n) (fun i hi => Int.mul_nonneg (hD0 i hi).1 (by omega)) hk
    have h2 := num_bound (s := s) (n := n) hD0
    rw [← hSmn, hSm] at h2
    rw [hSm]
    simp only at h2 ⊢
    omega
  have hSs : ∀ k, Sm (k + 1) = Sm k + D0 fb st k * (W k : Int) := fun k => by rw [hSm]; rfl
  have q0 : w.cell? ⟨sb, 0, none⟩ = some (.pointer (some ⟨tb, 0, none⟩)) := hS.sim.cell (i := 0) rfl
  have q2 : w.cell? ⟨sb, 2, none⟩ = some (.int .i64 num) := hS.sim.cell (i := 2) rfl
  have q6 : w.cell? ⟨sb, 6, none⟩ = some (.slice (some ⟨snb, 0, none⟩) n n) := hS.sim.cell (i := 6) rfl
  have q10 : w.cell? ⟨sb, 10, none⟩ = some (.slice (some ⟨stb, 0, none⟩) n n) := hS.sim.cell (i := 10) rfl
  have f2 : w.frozen? ⟨sb, 2, none⟩ = false := hS.sim.frozen 2
  have t3 := hT.c3
  have ntb : ¬ tb = sb := fun e => by have := hS.sep.l sb (by simp [SimB.written]); omega
  have ntb' : ¬ sb = tb := fun e => ntb e.symm
  have I0 : Hid (St1 w (w.setCell ⟨sb, 2, none⟩ (.int .i64 (num + 1))) ⟨sb, stb, mb, snb, cb, lb, some ⟨kb, 0, none⟩, cc, fa, fc⟩ tb n s fb (num + 1) st sv lv 0) := ⟨(Kp.refl _ _).setCell (.inl (by simp [SimB.written])) _, hS.sim.set 2 _, hS.st.other (Ne.symm hS.sep.d1) _, (hsv.other (Ne.symm hS.sep.d2) _).congr (fun v _ => by simp), hlv.other (Ne.symm hS.sep.d3) _⟩
  have HT := hid hT
  have HS := hid hS
  have HX := hid hnx
  have HB := hid hb
  have HO := hid hst
  have HW := hid hwt
  have HSb := hid hSb
  have HSs := hid hSs
  have HSn := hid hSmn
  have HSh := hid hsh
  have HPn := hid hpn
  have HD := hid hD0
  have HS0 : Hid (Sm 0 = 0) := by rw [hSm]; rfl
  have HWd := hid hW
  clear hT hS hnx hb hst hwt hSb hSs hSmn hsh hpn hD0 hSm hsv hlv hW
  go_enter Tryf.func20, Tryf.ntmps20
  go_wp2
  go_quiet (fail)
  go_wp2
  go_quiet (fail)
  go_wp2
  clear q0 q2 q6 q10 f2 t3
  go_loopw [7, 51] (fun sn i wr => ∃ k : Nat, k ≤ n ∧ i = .int .i64 k ∧ sn = .int .i64 (Sm k) ∧ St1 w wr ⟨sb, stb, mb, snb, cb, lb, some ⟨kb, 0, none⟩, cc, fa, fc⟩ tb n s fb (num + 1) st sv lv k) (fun _ i _ => n - (intOf i).toNat)
  case atStart => exact ⟨0, by omega, rfl, by rw [HS0.out], (I0.out.drewN _).drewN _⟩
  case round =>
    obtain ⟨k, hk, rfl, rfl, hi1⟩ := hrel
    have H1 := hid hi1
    by_cases hlt : k < n
    · have hcs : wr.cell? ⟨stb, k, none⟩ = some (.int .i64 (st k)) := hi1.rst.cell hlt
      have hb0 := HSb.out k hk
      have hb1 := HSb.out (k + 1) (by omega)
      cases hbk : fb k
      · have hck := HO.out.c k hlt hbk
        have hE : Sm (k + 1) = Sm k + st k * (W k : Int) := by rw [HSs.out k]; simp [D0, hbk]
        have hpm : 0 ≤ st k * (W k : Int) := Int.mul_nonneg hck.1 (by omega)
        have hne1 : (st k != -1) = true := by simp; omega
        have hcw := hi1.keep.cell' (HW.out.cell hlt) (fun hm => by have := HS.out.sep.l _ hm; simp at this; omega)
        have hsn : wr.cell? ⟨snb, k, none⟩ = some (.int .u64 (if k < k ∧ fb k = false then st k else sv k)) := hi1.sent.cell hlt
        have hsf : wr.frozen? ⟨snb, k, none⟩ = false := hi1.sent.frozen k
        have hnw : ¬ snb = wb := fun e => by have := HS.out.sep.l snb (by simp [SimB.written]); omega
        have hnw' : ¬ wb = snb := fun e => hnw e.symm
        have hpm2 : st k * (W k : Int) ≤ 1048576 := by omega
        have HE := hid hE
        have HBK := hid hbk
        clear hE hbk hi1
        go_wp2
        go_roundw
        case rel => exact ⟨k + 1, by omega, by go_num, by rw [HE.out], H1.out.put HS.out.sep HBK.out⟩
        case measure => simp [intOf]; omega
      · have hck := HO.out.f k hlt hbk
        have hE : Sm (k + 1) = Sm k := by rw [HSs.out k]; simp [D0, hbk]
        have hcs' : wr.cell? ⟨stb, k, none⟩ = some (.int .i64 (-1)) := by rw [hcs, hck]
        have HE := hid hE
        have HBK := hid hbk
        clear hE hbk hi1 hcs hck
        go_wp2
        go_roundw
        case rel => exact ⟨k + 1, by omega, by go_num, by rw [HE.out], H1.out.skip HBK.out⟩
        case measure => simp [intOf]; omega
    · obtain rfl : n = k := by omega
      have q1 : wr.cell? ⟨sb, 1, none⟩ = some (.iface 67 (.agg #[])) := hi1.sim.cell (i := 1) rfl
      have q3 : wr.cell? ⟨sb, 3, none⟩ = some (.slice (some ⟨kb, 0, none⟩) (cw fb false n) cc) := hi1.sim.cell (i := 3) rfl
      have q11 : wr.cell? ⟨sb, 11, none⟩ = some (.slice (some ⟨lb, 0, none⟩) 1 1) := hi1.sim.cell (i := 11) rfl
      obtain ⟨sv1, hsv1⟩ : ∃ sv1 : Nat → Int, sv1 = fun v => if fb v = false then st v else sv v := ⟨_, rfl⟩
      have I2 : Hid (St2 w wr ⟨sb, stb, mb, snb, cb, lb, some ⟨kb, 0, none⟩, cc, fa, fc⟩ tb n s fb (num + 1) (stI n s nx fb st 0) sv1) := ⟨hi1.keep, hi1.sim, hi1.rst.congr (fun v _ => by simp [stI]), hi1.sent.congr (fun v hv => by rw [hsv1]; simp [hv]), ⟨_, hi1.lie⟩⟩
      have HSV : Hid (∀ v, fb v = false → sv1 v = st v) := fun v hb => by rw [hsv1]; simp [hb]
      have hcl := cw_le (fb := fb) (want := false) n
      have htl := cw_le (fb := fb) (want := true) n
      have HKC := hid hkc
      clear hi1 H1 I0 HSs HS0 hkc hsv1
      go_wp2
      go_quiet (fail)
      go_wp2
      clear q1 q3 q11
      go_loopw [85] (fun j wq => ∃ i : Nat, i ≤ cw fb false n ∧ j = .int .i64 i ∧ St2 w wq ⟨sb, stb, mb, snb, cb, lb, some ⟨kb, 0, none⟩, cc, fa, fc⟩ tb n s fb (num + 1) (stI n s nx fb st i) sv1) (fun j _ => cw fb false n - (intOf j).toNat)
      case atStart => exact ⟨0, by omega, rfl, I2.out.drewN _⟩
      case round =>
        obtain ⟨i, hi, rfl, h2⟩ := hrel
        have H2 := hid h2
        by_cases hil : i < cw fb false n
        · have nkb : kb ∉ SimB.written ⟨sb, stb, mb, snb, cb, lb, some ⟨kb, 0, none⟩, cc, fa, fc⟩ := HS.out.sep.k kb (by rw [hkbl]; simp)
          have hck := h2.keep.cell' (HKC.out i hil) nkb
          have q9 : wr.cell? ⟨sb, 9, none⟩ = some (.slice fa (cw fb true n) fc) := h2.sim.cell (i := 9) rfl
          have hv := nth_lt hil
          have hrk := cw_nth hil
          obtain ⟨v, hvd⟩ : ∃ v, v = nth fb false n i := ⟨_, rfl⟩
          rw [← hvd] at hck hv hrk
          have hsr := srcOf_lt (n := n) hil
          obtain ⟨x, hx⟩ : ∃ x, x = st (srcOf fb n i) := ⟨_, rfl⟩
          have hxb : 0 ≤ x ∧ x < s := by rw [hx]; exact HO.out.c _ hsr.1 hsr.2
          obtain ⟨Ob, hOb⟩ : ∃ Ob : Nat → Int, Ob = fun u => Go.Tocsin.num s (obsD fb st x u) n := ⟨_, rfl⟩
          have HO0 : Hid (Ob 0 = Sm n) := by rw [hOb, HSn.out]; exact obs_zero fb st x s n
          have HOn : Hid (Ob (cw fb true n) = Go.Tocsin.num s (seenBy fb st x) n) := by rw [hOb]; exact obs_last fb st x s n
          have HOs : Hid (∀ u, u < cw fb true n → Ob (u + 1) = Ob u + x * (W (nth fb true n u) : Int)) := by rw [hOb, HWd.out]; exact fun u hu => obs_succ fb st x s n u hu
          have HOb : Hid (∀ u, 0 ≤ Ob u ∧ Ob u < ((s ^ n : Nat) : Int)) := by rw [hOb]; exact fun u => obs_bound HO.out hxb hs1 u
          have HV := hid hvd
          have HX' := hid hx
          have hSb := HSb.out n (Nat.le_refl _)
          clear hvd hx hOb h2 hkbl
          go_wp2
          go_loopw [14, 95] (fun ob j wq => ∃ u : Nat, u ≤ cw fb true n ∧ j = .int .i64 u ∧ ob = .int .i64 (Ob u) ∧ St2 w wq ⟨sb, stb, mb, snb, cb, lb, some ⟨kb, 0, none⟩, cc, fa, fc⟩ tb n s fb (num + 1) (stI n s nx fb st i) sv1) (fun _ j _ => cw fb true n - (intOf j).toNat)
          case atStart => exact ⟨0, by omega, rfl, by rw [HO0.out], H2.out⟩
          case round =>
            obtain ⟨u, hu, rfl, rfl, h3⟩ := hrel
            have H3 := hid h3
            by_cases hul : u < cw fb true n
            · have hfv := nth_lt hul
              obtain ⟨fv, hfd⟩ : ∃ fv, fv = nth fb true n u := ⟨_, rfl⟩
              obtain ⟨fk, hfa, hfbl, hfc⟩ : ∃ fk, fa = some ⟨fk, 0, none⟩ ∧ blks (.slice fa (cw fb true n) fc) = [fk] ∧ w.cell? ⟨fk, u, none⟩ = some (.int .i64 (fv : Nat)) := by
                obtain ⟨a, cap, e, h⟩ := HS.out.fau.elim
                obtain ⟨b, e1, e2, e3⟩ := h (by omega)
                cases e
                exact ⟨b, e1, e2, by rw [hfd]; exact e3 u hul⟩
              subst hfa
              have nfk : fk ∉ SimB.written ⟨sb, stb, mb, snb, cb, lb, some ⟨kb, 0, none⟩, cc, some ⟨fk, 0, none⟩, fc⟩ := HS.out.sep.f fk (by rw [hfbl]; simp)
              have hcf := h3.keep.cell' hfc nfk
              obtain ⟨lv3, hl3⟩ := h3.lie
              have hl3c : wr.cell? ⟨lb, 0, none⟩ = some (.int .u64 lv3) := hl3.cell (by omega)
              have hl3f : wr.frozen? ⟨lb, 0, none⟩ = false := hl3.frozen 0
              have HFD := hid hfd
              have HL3 := hid hl3
              clear hfd hl3 h3 hfc hfbl q9
              have hmeth := show_method
              have k3 : Kp [lb] wr (wr.setCell ⟨lb, 0, none⟩ (.int .u64 0)) := Kp.set _ _ _ _
              have HSH : Hid (Calls Tryf.prog 35 #[.agg #[], .pointer (some ⟨sb, 2, none⟩), .int .i64 fv, .int .i64 v, .slice (some ⟨lb, 0, none⟩) 1 1] (wr.setCell ⟨lb, 0, none⟩ (.int .u64 0)) fun e w4 => e = .returned (.tuple #[]) ∧ Row w4 lb 30 1 (fun _ => .int .u64 x) ∧ Kp [lb] wr w4) := by
                have sep := HS.out.sep
                have d3 : sb ∉ [lb] := by have := sep.d3; simpa using this
                have nk : kb ∉ [lb] := by have := nkb; simp [SimB.written] at this; simp; omega
                have ncb : cb ∉ [lb] := by have := sep.c; simp [SimB.written] at this; simp; omega
                have nsn : snb ∉ [lb] := by have := sep.d6; simpa using this
                have hsim := H3.out.sim.kp k3 d3
                have hcr := (HS.out.crash.kp H3.out.keep sep.c).kp k3 ncb
                have hsd := H3.out.sent.kp k3 nsn
                have hkk : ∀ j, j < cw fb false n → (wr.setCell ⟨lb, 0, none⟩ (.int .u64 0)).cell? ⟨kb, j, none⟩ = some (.int .i64 (nth fb false n j : Nat)) := fun j hj => k3.cell' (H3.out.keep.cell' (HKC.out j hj) nkb) nk
                rw [HV.out]
                refine (show_calls sb 2 kb (cw fb false n) cc cb snb n n n 1 lb 1 i (srcOf fb n i) (num + 1) fv (nth fb false n) _ (fun v => .int .u64 (sv1 v)) _ (by omega) (hsim.cell (i := 2) rfl) (hsim.cell (i := 3) rfl) (hsim.cell (i := 4) rfl) (hsim.cell (i := 6) rfl) (hsim.cell (i := 7) rfl) hkk hil (by omega) (fun a b h1 h2 => nth_mono h1 h2) (fun a h1 => (nth_lt h1).1) (fun a h1 => crash0 hcr h1) (fun a h1 => crash1 hcr h1) (by omega) (by omega) (by omega) (Nat.le_refl _) (by omega) (fun a h1 => hsd.cell h1) (fun _ => rfl) (HL3.out.set 0 (.int .u64 0)) rfl).mono ?_
                rintro e w4 ⟨rfl, r4, k4⟩
                refine ⟨rfl, r4.congr (fun a ha => ?_), k3.trans k4 (by simp)⟩
                obtain rfl : a = 0 := by omega
                simp only [Nat.mul_one, Nat.add_zero]
                rw [HSV.out _ hsr.2, HX'.out]
              clear k3
              go_wp2_with (go_at_call 35; refine HSH.out.mono ?_; rintro e w4 ⟨rfl, r4, k4⟩)
              have H4 : Hid (St2 w w4 ⟨sb, stb, mb, snb, cb, lb, some ⟨kb, 0, none⟩, cc, some ⟨fk, 0, none⟩, fc⟩ tb n s fb (num + 1) (stI n s nx fb st i) sv1) := H3.out.lied HS.out.sep k4 r4
              have hlc : w4.cell? ⟨lb, 0, none⟩ = some (.int .u64 x) := r4.cell (by omega)
              obtain ⟨Mk, hMk⟩ : ∃ Mk, Mk = 2 ^ Lib.bitLen (s - 1) - 1 := ⟨_, rfl⟩
              have q12 : w4.cell? ⟨sb, 12, none⟩ = some (.int .u64 (Mk : Nat)) := by rw [hMk]; exact H4.out.sim.cell (i := 12) rfl
              have q13 : w4.cell? ⟨sb, 13, none⟩ = some (.int .u64 ((s - 1 : Nat) : Int)) := H4.out.sim.cell (i := 13) rfl
              have hwc := H4.out.keep.cell' (HW.out.cell (i := fv) (by rw [HFD.out]; exact hfv.1)) (fun hm => by have := HS.out.sep.l _ hm; simp at this; omega)
              have hfvn : fv < n := by rw [HFD.out]; exact hfv.1
              have hand : bits BinOp.and IntKind.u64 x (Mk : Int) = x := by
                have hbl := bitLen_pow ⟨s - 1, by omega⟩
                simp only at hbl
                have hp : 2 ^ Lib.bitLen (s - 1) ≤ 256 := Nat.le_trans (Nat.pow_le_pow_right (by omega) hbl.2) (by decide)
                obtain ⟨y, rfl⟩ := Int.eq_ofNat_of_zero_le hxb.1
                rw [bits_and_u64_nat y Mk (by omega) (by omega), hMk, and_mask (by omega)]
              have hmin : min x ((s - 1 : Nat) : Int) = x := by omega
              have hE := HOs.out u hul
              rw [← HFD.out] at hE
              have hb0 := HOb.out u
              have hb1 := HOb.out (u + 1)
              have hpn := HPn.out
              have hpm : 0 ≤ x * (W fv : Int) := Int.mul_nonneg hxb.1 (by omega)
              have hpm2 : x * (W fv : Int) ≤ 1048576 := by omega
              have hob2 : Ob u ≤ 1048576 := by omega
              have hob3 : 0 ≤ Ob u := hb0.1
              have hob4 : Ob u + x * (W fv : Int) ≤ 1048576 := by omega
              have HE := hid hE
              have HMk := hid hMk
              clear r4 k4 hmeth HSH hl3c hl3f hcf hE hMk hb0 hb1 hpn
              go_wp2_with fail
              go_quiet (fail)
              go_wp2
              go_roundw
              case rel => exact ⟨u + 1, by omega, by go_num, by rw [HE.out], H4.out.drewN _⟩
              case measure => simp [intOf]; omega
            · obtain rfl : cw fb true n = u := by omega
              have hob := HOb.out (cw fb true n)
              have hpn := HPn.out
              obtain ⟨idx, hidx⟩ := Int.eq_ofNat_of_zero_le hob.1
              have hNX := hid (fun (w9 : World) (h : TableAt w9 tb nb wb fl n s ln nx) => nextState_calls tb nb wb fl n s ln idx v nx w9 h hln (idx_lt HSh.out (by omega) hv.1) HB.out)
              rw [hidx]
              have hnw : ∀ b, b < lo → b ∉ SimB.written ⟨sb, stb, mb, snb, cb, lb, some ⟨kb, 0, none⟩, cc, fa, fc⟩ := fun b hb hm => by have := HS.out.sep.l b hm; omega
              have hTw := HT.out.kp h3.keep (hnw _ ht1) (hnw _ ht2) (hnw _ ht3) (hnw _ ht4)
              have hcs : wr.cell? ⟨stb, v, none⟩ = some (.int .i64 (stI n s nx fb st i v)) := h3.st.cell hv.1
              have hfs : wr.frozen? ⟨stb, v, none⟩ = false := h3.st.frozen v
              have HStep : Hid (((nx (idx * n + v) : Nat) : Int) = stepF n s nx fb st v) := by
                have e1 : Go.Tocsin.num s (seenBy fb st x) n = (idx : Int) := by rw [← HOn.out, hidx]
                show _ = stepF n s nx fb st v
                unfold stepF
                rw [hv.2, if_neg (by simp), hrk, ← HX'.out, e1]
                simp
              clear h3
              go_wp2_with fail
              refine (hNX.out _ hTw).mono ?_
              rintro e w5 ⟨rfl, q5, rfl⟩
              clear hTw hNX
              go_wp2
              go_roundw
              case rel =>
                refine ⟨i + 1, by omega, by go_num, ?_⟩
                have := (H3.out.move HS.out.sep hil).drewN q5
                rw [← HV.out, ← HStep.out] at this
                exact this
              case measure => simp [intOf]; omega
        · obtain rfl : cw fb false n = i := by omega
          go_wp2
          go_end0
          exact ⟨rfl, St2.done HS.out HO.out H2.out⟩

end Go.Proofs.Qxb6615056aFmt

/-
  RUNS OF A SIMULATION: newEquivocationSimulation (19), simRound (22), simStates (24), sameInts (23); many rounds.
-/
import Derived.Test.Qxb6615056aFmtStep
namespace Go.Proofs.Qxb6615056aFmt
open Go.RowKit Go.Tocsin

set_option maxHeartbeats 1600000 in
set_option maxRecDepth 100000 in
theorem newEquiv_calls (tb nb wb fl n s ln fk ik : Nat) (nx : Nat → Nat) (fb : Nat → Bool) (ini : Nat → Int) (w : World) (hn1 : 1 ≤ n) (hn : n ≤ 1048576) (hs1' : 1 ≤ s) (hs2 : s ≤ 256)
    (hT : TableAt w tb nb wb fl n s ln nx) (hF : Row w fk 4 n (fun i => .bool (fb i))) (hI : Row w ik 3 n (fun i => .int .i64 (ini i))) (hfew : cnt fb n ≤ (n - 1) / 3) (hini : ∀ u, u < n → fb u = false → 0 ≤ ini u ∧ ini u < s) :
    Calls Tryf.prog 19 #[.pointer (some ⟨tb, 0, none⟩), .slice (some ⟨fk, 0, none⟩) n n, .slice (some ⟨ik, 0, none⟩) n n] w fun e w' => ∃ B : SimB, e = .returned (.tuple #[.pointer (some ⟨B.sb, 0, none⟩), .nilIface]) ∧ SimAt w' w.heap.size B tb n s fb 0 (st0 fb ini) ∧ Kp [] w w' := by
  have HN := hid (newSim_calls tb nb wb fl n s ln fk ik nx fb ini w hn1 hn hs1' hs2 hT hF hI hfew hini)
  clear hT hF hI hini hfew
  go_enter Tryf.func19, Tryf.ntmps19
  go_wp2_with (go_at_call 38; refine HN.out.mono ?_; rintro e w1 ⟨B, rfl, h1, h2⟩)
  go_ret2
  exact ⟨B, rfl, h1, h2⟩

set_option maxHeartbeats 800000 in
theorem simRound_calls (lo tb n s : Nat) (B : SimB) (fb : Nat → Bool) (num : Int) (st : Nat → Int) (w : World) (h : SimAt w lo B tb n s fb num st) :
    Calls Tryf.prog 22 #[.pointer (some ⟨B.sb, 0, none⟩)] w fun e w' => e = .returned (.int .i64 num) ∧ w' = w := by
  have q2 := h.sim.cell (i := 2) rfl
  clear h
  go_enter Tryf.func22, Tryf.ntmps22
  go_wp2
  go_ret
  exact ⟨rfl, rfl⟩

set_option maxHeartbeats 800000 in
theorem simStates_calls (lo tb n s : Nat) (B : SimB) (fb : Nat → Bool) (num : Int) (st : Nat → Int) (w : World) (h : SimAt w lo B tb n s fb num st) :
    Calls Tryf.prog 24 #[.pointer (some ⟨B.sb, 0, none⟩)] w fun e w' => e = .returned (.slice (some ⟨B.stb, 0, none⟩) n n) ∧ w' = w := by
  have q10 := h.sim.cell (i := 10) rfl
  clear h
  go_enter Tryf.func24, Tryf.ntmps24
  go_wp2
  go_ret
  exact ⟨rfl, rfl⟩

set_option maxHeartbeats 1600000 in
set_option maxRecDepth 100000 in
theorem sameInts_calls (b1 b2 n c1 c2 : Nat) (f : Nat → Int) (w : World) (hn : n ≤ 1048576) (h1 : ∀ i, i < n → w.cell? ⟨b1, i, none⟩ = some (.int .i64 (f i))) (h2 : ∀ i, i < n → w.cell? ⟨b2, i, none⟩ = some (.int .i64 (f i))) :
    Calls Tryf.prog 23 #[.slice (some ⟨b1, 0, none⟩) n c1, .slice (some ⟨b2, 0, none⟩) n c2] w fun e w' => e = .returned (.bool true) ∧ ∃ q, w' = w.drewN q := by
  have H1 := hid h1
  have H2 := hid h2
  clear h1 h2
  go_enter Tryf.func23, Tryf.ntmps23
  go_wp2
  go_loopw [5] (fun i wr => ∃ k q : Nat, k ≤ n ∧ i = .int .i64 k ∧ wr = w.drewN q) (fun i _ => n - (intOf i).toNat)
  case atStart => exact ⟨0, 0, by omega, rfl, rfl⟩
  case round =>
    obtain ⟨k, q, hk, rfl, rfl⟩ := hrel
    by_cases hlt : k < n
    · have c1 := H1.out k hlt
      have c2 := H2.out k hlt
      go_wp2
      go_quiet (fail)
      go_wp2
      go_roundw
      case rel => exact ⟨k + 1, _, by omega, by go_num, rfl⟩
      case measure => simp [intOf]; omega
    · go_wp2
      go_ret
      exact ⟨rfl, _, rfl⟩

/-- The states after j rounds. -/
def runF (n s : Nat) (nx : Nat → Nat) (fb : Nat → Bool) (st : Nat → Int) : Nat → Nat → Int
  | 0 => st
  | j + 1 => stepF n s nx fb (runF n s nx fb st j)

theorem runF_ok {n s ln : Nat} {nx : Nat → Nat} {fb : Nat → Bool} {st : Nat → Int} (h : StOk n s fb st) (hsh : s ^ n * n = ln) (hnx : ∀ i, i < ln → nx i < s) (j : Nat) : StOk n s fb (runF n s nx fb st j) := by
  induction j with
  | zero => exact h
  | succ j ih => exact stepF_ok ih hsh hnx

theorem stepF_congr {n s : Nat} {nx : Nat → Nat} {fb : Nat → Bool} {st st' : Nat → Int} (h : ∀ v, v < n → st v = st' v) : ∀ v, v < n → stepF n s nx fb st v = stepF n s nx fb st' v := by
  intro v hv
  cases hb : fb v
  · have hs := srcOf_lt (n := n) (cw_lt hv hb)
    have e : num s (seenBy fb st (st (srcOf fb n (cw fb false v)))) n = num s (seenBy fb st' (st' (srcOf fb n (cw fb false v)))) n := by
      unfold num
      apply sumTo_congr
      intro u hu
      rw [h _ hs.1]
      unfold seenBy
      rw [h u hu]
    simp only [stepF, hb]
    rw [e]
  · simp [stepF, hb]

theorem runF_congr {n s : Nat} {nx : Nat → Nat} {fb : Nat → Bool} {st st' : Nat → Int} (h : ∀ v, v < n → st v = st' v) (j : Nat) : ∀ v, v < n → runF n s nx fb st j v = runF n s nx fb st' j v := by
  induction j with
  | zero => exact h
  | succ j ih => exact stepF_congr ih

theorem runF_add {n s : Nat} {nx : Nat → Nat} {fb : Nat → Bool} {st : Nat → Int} (i j : Nat) : runF n s nx fb (runF n s nx fb st i) j = runF n s nx fb st (i + j) := by
  induction j with
  | zero => rfl
  | succ j ih => show stepF n s nx fb (runF n s nx fb (runF n s nx fb st i) j) = stepF n s nx fb (runF n s nx fb st (i + j)); rw [ih]

theorem st0_ok {n s : Nat} {fb : Nat → Bool} {ini : Nat → Int} (h : ∀ u, u < n → fb u = false → 0 ≤ ini u ∧ ini u < s) : StOk n s fb (st0 fb ini) :=
  ⟨fun v _ hb => by simp [st0, hb], fun v hv hb => by have := h v hv hb; simpa [st0, hb] using this⟩

/-- Some correct node there is. -/
theorem correct_pos {n : Nat} {fb : Nat → Bool} (hn : 1 ≤ n) (h : cnt fb n ≤ (n - 1) / 3) : 0 < cw fb false n := by
  rw [cnt_eq] at h
  have := cw_add (fb := fb) n
  omega

/-- What every run leans on: the table, its numbers. -/
structure Ground (lo tb nb wb fl n s ln : Nat) (nx : Nat → Nat) (fb : Nat → Bool) : Prop where
  n1 : 1 ≤ n
  n2 : n ≤ 4096
  s1 : 1 ≤ s
  s2 : s ≤ 256
  ln2 : ln ≤ 1048576
  sh : s ^ n * n = ln
  nxs : ∀ i, i < ln → nx i < s
  nxb : ∀ i, nx i < 256
  t1 : tb < lo
  t2 : nb < lo
  t3 : wb < lo
  t4 : fl < lo
  kn : 0 < cw fb false n

theorem SimAt.lt {w : World} {lo : Nat} {B : SimB} {tb n s : Nat} {fb : Nat → Bool} {num : Int} {st : Nat → Int} (h : SimAt w lo B tb n s fb num st) : ∀ b ∈ B.written, b < w.heap.size := by
  intro b hb
  simp [SimB.written] at hb
  rcases hb with rfl | rfl | rfl | rfl
  · exact h.sim.lt
  · exact h.st.lt
  · exact h.sent.choose_spec.lt
  · exact h.lie.choose_spec.lt

/-- A round more. -/
theorem stepRun {lo tb nb wb fl n s ln : Nat} {B : SimB} {nx : Nat → Nat} {fb : Nat → Bool} {j : Nat} {st : Nat → Int} {wA w : World} (g : Ground lo tb nb wb fl n s ln nx fb) (hlo : wA.heap.size = lo) (hj : j ≤ 65536) (hT : TableAt wA tb nb wb fl n s ln nx) (hk : Kp [] wA w)
    (hS : SimAt w lo B tb n s fb (j : Nat) (runF n s nx fb st j)) (hok : StOk n s fb st) :
    Calls Tryf.prog 20 #[.pointer (some ⟨B.sb, 0, none⟩)] w fun e w' => e = .returned (.tuple #[]) ∧ SimAt w' lo B tb n s fb ((j + 1 : Nat) : Int) (runF n s nx fb st (j + 1)) ∧ Kp [] wA w' ∧ Kp B.written w w' := by
  refine (step_calls lo tb nb wb fl n s ln B nx fb (j : Nat) (runF n s nx fb st j) w g.n1 g.n2 g.s1 g.s2 g.ln2 (by omega) (by omega) g.sh g.nxs g.nxb (hT.kp hk (by simp) (by simp) (by simp) (by simp)) g.t1 g.t2 g.t3 g.t4 hS (runF_ok hok g.sh g.nxs j) g.kn).mono ?_
  rintro e w' ⟨rfl, h1, h2⟩
  refine ⟨rfl, ?_, hk.trans h2 (fun i hi => .inr (by rw [hlo]; exact hS.sep.l i hi)), h2⟩
  rw [show ((j + 1 : Nat) : Int) = ((j : Nat) : Int) + 1 by omega]
  exact h1

end Go.Proofs.Qxb6615056aFmt

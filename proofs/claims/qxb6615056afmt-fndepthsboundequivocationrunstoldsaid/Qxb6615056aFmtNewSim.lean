/-
  THE WALK OF NewSimulation (38): what a Simulation is in memory, and that NewSimulation makes one.
-/
import Derived.Test.Qxb6615056aFmtSim
import Derived.Deep.RegionHeld3
namespace Go.Proofs.Qxb6615056aFmt
open Go.RowKit Go.Tocsin

theorem cnt_eq (fb : Nat → Bool) (n : Nat) : cnt fb n = cw fb true n := by
  induction n with
  | zero => rfl
  | succ n ih => simp only [cnt, cw, ih]

theorem size_set (w : World) (p : Addr) (v : Value) : (w.setCell p v).heap.size = w.heap.size := by simp [World.setCell]
theorem cell_under (W : World) (A : Array Value) (t : TypeId) (o1 o2 : Obj) (g i : Nat) (hg : g = W.heap.size) : (((W.alloc (.cells A t)).alloc o1).alloc o2).drew.cell? ⟨g, i, none⟩ = A[i]? := by
  subst hg
  show (((W.alloc (.cells A t)).alloc o1).alloc o2).cell? ⟨W.heap.size, i, none⟩ = A[i]?
  rw [World.cell?_alloc_past _ _ _ (by simp; omega), World.cell?_alloc_past _ _ _ (by simp), World.cell?_alloc_at _ _ _ _ rfl]

/-- What a Simulation's block holds while NewSimulation fills it. -/
def simL0 (tb stb n : Nat) (fv : Value) : List Value :=
  [.pointer (some ⟨tb, 0, none⟩), .iface 67 (.agg #[]), .int .i64 0, .slice none 0 0, .int .i64 0, .slice none 0 0, .slice none 0 0, .slice none 0 0, .slice none 0 0, fv, .slice (some ⟨stb, 0, none⟩) n n, .slice none 0 0, .int .u64 0, .int .u64 0]

/-- The start's states: -1 at the faulty nodes. -/
def st0 (fb : Nat → Bool) (ini : Nat → Int) (v : Nat) : Int := if fb v then -1 else ini v

/-- The loop of NewSimulation, its first k rounds done. -/
structure NSInv (w wr : World) (sb stb tb n k : Nat) (fb : Nat → Bool) (ini : Nat → Int) (ca : Option Addr) (cc : Nat) (fa : Option Addr) (fc : Nat) : Prop where
  keep : Kp [] w wr
  sbB : w.heap.size ≤ sb
  stB : w.heap.size ≤ stb
  ne : sb ≠ stb
  sim : Blk wr sb 84 (simL0 tb stb n (.slice fa (cw fb true k) fc))
  st : Row wr stb 3 n (fun v => .int .i64 (if v < k then st0 fb ini v else 0))
  cor : Own wr 3 (.slice ca (cw fb false k) cc) (cw fb false k) (fun i => .int .i64 (nth fb false n i : Nat))
  fau : Own wr 3 (.slice fa (cw fb true k) fc) (cw fb true k) (fun i => .int .i64 (nth fb true n i : Nat))
  corN : ∀ b ∈ blks (.slice ca (cw fb false k) cc), b ≠ sb ∧ b ≠ stb ∧ w.heap.size ≤ b ∧ b ∉ blks (.slice fa (cw fb true k) fc)
  fauN : ∀ b ∈ blks (.slice fa (cw fb true k) fc), b ≠ sb ∧ b ≠ stb ∧ w.heap.size ≤ b

theorem NSInv.faulty {w wr w1 : World} {sb stb tb n k : Nat} {fb : Nat → Bool} {ini : Nat → Int} {ca fa fa' : Option Addr} {cc fc fc' : Nat} {o : Obj} (h : NSInv w wr sb stb tb n k fb ini ca cc fa fc) (hk : k < n) (hb : fb k = true)
    (ho : Own w1 3 (.slice fa' (cw fb true k + 1) fc') (cw fb true k + 1) (fun i => .int .i64 (nth fb true n i : Nat))) (hkp : Kp (blks (.slice fa (cw fb true k) fc)) (wr.alloc o) w1)
    (hbk : ∀ b ∈ blks (.slice fa' (cw fb true k + 1) fc'), b ∈ blks (.slice fa (cw fb true k) fc) ∨ (wr.alloc o).heap.size ≤ b) :
    NSInv w ((w1.setCell ⟨sb, 9, none⟩ (.slice fa' (cw fb true k + 1) fc')).setCell ⟨stb, k, none⟩ (.int .i64 (-1))) sb stb tb n (k + 1) fb ini ca cc fa' fc' := by
  have e1 : cw fb true (k + 1) = cw fb true k + 1 := by simp [cw, hb]
  have e0 : cw fb false (k + 1) = cw fb false k := by simp [cw, hb]
  have k1 : Kp (blks (.slice fa (cw fb true k) fc)) wr w1 := ((Kp.refl _ wr).alloc o).trans hkp (fun i hi => .inl hi)
  have nsb : sb ∉ blks (.slice fa (cw fb true k) fc) := fun hm => (h.fauN sb hm).1 rfl
  have nst : stb ∉ blks (.slice fa (cw fb true k) fc) := fun hm => (h.fauN stb hm).2.1 rfl
  have hsz := h.keep.size
  have hal : (wr.alloc o).heap.size = wr.heap.size + 1 := by simp
  have hslt := h.sim.lt
  have hstlt := h.st.lt
  have nfau : ∀ b ∈ blks (.slice fa' (cw fb true k + 1) fc'), b ≠ sb ∧ b ≠ stb ∧ w.heap.size ≤ b := by
    intro b hb'
    rcases hbk b hb' with h1 | h1
    · exact h.fauN b h1
    · exact ⟨by omega, by omega, by omega⟩
  refine ⟨?_, h.sbB, h.stB, h.ne, ?_, ?_, ?_, ?_, ?_, ?_⟩
  · refine ((h.keep.trans k1 (fun i hi => .inr (h.fauN i hi).2.2)).setCell (.inr h.sbB) _).setCell (.inr h.stB) _
  · rw [e1]
    have := ((h.sim.kp k1 nsb).set 9 (.slice fa' (cw fb true k + 1) fc')).other (p := ⟨stb, k, none⟩) h.ne (.int .i64 (-1))
    simpa [simL0] using this
  · refine (((h.st.kp k1 nst).other (p := ⟨sb, 9, none⟩) (Ne.symm h.ne) _).set k _).congr (fun v hv => ?_)
    by_cases e : v = k
    · subst e; rw [if_pos rfl, if_pos (by omega)]; simp [st0, hb]
    · rw [if_neg e]
      by_cases e2 : v < k
      · rw [if_pos e2, if_pos (by omega)]
      · rw [if_neg e2, if_neg (by omega)]
  · rw [e0]
    refine ((h.cor.kp k1 (fun i hi => (h.corN i hi).2.2.2)).kp (Kp.set _ _ _ _) (fun i hi => by have := (h.corN i hi).1; simpa using this)).kp (Kp.set _ _ _ _) (fun i hi => by have := (h.corN i hi).2.1; simpa using this)
  · rw [e1]
    exact (ho.kp (Kp.set _ _ _ _) (fun i hi => by have := (nfau i hi).1; simpa using this)).kp (Kp.set _ _ _ _) (fun i hi => by have := (nfau i hi).2.1; simpa using this)
  · rw [e0, e1]
    intro b hb'
    have := h.corN b hb'
    refine ⟨this.1, this.2.1, this.2.2.1, fun hm => ?_⟩
    rcases hbk b hm with h1 | h1
    · exact this.2.2.2 h1
    · have := h.cor.lt b hb'; omega
  · rw [e1]; exact nfau

theorem NSInv.correct {w wr w1 : World} {sb stb tb n k : Nat} {fb : Nat → Bool} {ini : Nat → Int} {ca fa ca' : Option Addr} {cc fc cc' : Nat} {o : Obj} (h : NSInv w wr sb stb tb n k fb ini ca cc fa fc) (hk : k < n) (hb : fb k = false)
    (ho : Own w1 3 (.slice ca' (cw fb false k + 1) cc') (cw fb false k + 1) (fun i => .int .i64 (nth fb false n i : Nat))) (hkp : Kp (blks (.slice ca (cw fb false k) cc)) (wr.alloc o) w1)
    (hbk : ∀ b ∈ blks (.slice ca' (cw fb false k + 1) cc'), b ∈ blks (.slice ca (cw fb false k) cc) ∨ (wr.alloc o).heap.size ≤ b) :
    NSInv w (w1.setCell ⟨stb, k, none⟩ (.int .i64 (ini k))) sb stb tb n (k + 1) fb ini ca' cc' fa fc := by
  have e1 : cw fb true (k + 1) = cw fb true k := by simp [cw, hb]
  have e0 : cw fb false (k + 1) = cw fb false k + 1 := by simp [cw, hb]
  have k1 : Kp (blks (.slice ca (cw fb false k) cc)) wr w1 := ((Kp.refl _ wr).alloc o).trans hkp (fun i hi => .inl hi)
  have nsb : sb ∉ blks (.slice ca (cw fb false k) cc) := fun hm => (h.corN sb hm).1 rfl
  have nst : stb ∉ blks (.slice ca (cw fb false k) cc) := fun hm => (h.corN stb hm).2.1 rfl
  have hsz := h.keep.size
  have hal : (wr.alloc o).heap.size = wr.heap.size + 1 := by simp
  have hslt := h.sim.lt
  have hstlt := h.st.lt
  have nfc : ∀ i ∈ blks (.slice fa (cw fb true k) fc), i ∉ blks (.slice ca (cw fb false k) cc) := fun i hi hm => (h.corN i hm).2.2.2 hi
  have ncor : ∀ b ∈ blks (.slice ca' (cw fb false k + 1) cc'), b ≠ sb ∧ b ≠ stb ∧ w.heap.size ≤ b ∧ b ∉ blks (.slice fa (cw fb true k) fc) := by
    intro b hb'
    rcases hbk b hb' with h1 | h1
    · exact h.corN b h1
    · exact ⟨by omega, by omega, by omega, fun hm => by have := h.fau.lt b hm; omega⟩
  refine ⟨?_, h.sbB, h.stB, h.ne, ?_, ?_, ?_, ?_, ?_, ?_⟩
  · exact (h.keep.trans k1 (fun i hi => .inr (h.corN i hi).2.2.1)).setCell (.inr h.stB) _
  · rw [e1]
    exact (h.sim.kp k1 nsb).other (p := ⟨stb, k, none⟩) h.ne _
  · refine ((h.st.kp k1 nst).set k _).congr (fun v hv => ?_)
    by_cases e : v = k
    · subst e; rw [if_pos rfl, if_pos (by omega)]; simp [st0, hb]
    · rw [if_neg e]
      by_cases e2 : v < k
      · rw [if_pos e2, if_pos (by omega)]
      · rw [if_neg e2, if_neg (by omega)]
  · rw [e0]
    exact ho.kp (Kp.set _ _ _ _) (fun i hi => by have := (ncor i hi).2.1; simpa using this)
  · rw [e1]
    exact (h.fau.kp k1 nfc).kp (Kp.set _ _ _ _) (fun i hi => by have := (h.fauN i hi).2.1; simpa using this)
  · rw [e0, e1]; exact ncor
  · rw [e1]; exact h.fauN

/-- What a Simulation's block holds. -/
def simL (tb stb mb snb cb n kn : Nat) (ca : Option Addr) (cc : Nat) (fv : Value) (num : Int) (lie : Value) (mask last : Int) : List Value :=
  [.pointer (some ⟨tb, 0, none⟩), .iface 67 (.agg #[]), .int .i64 num, .slice ca kn cc, .int .i64 1, .slice (some ⟨mb, 0, none⟩) n n, .slice (some ⟨snb, 0, none⟩) n n, .slice (some ⟨cb, 0, none⟩) n n, .slice none 0 0, fv, .slice (some ⟨stb, 0, none⟩) n n, lie, .int .u64 mask, .int .u64 last]

/-- The second loop of NewSimulation (the messages' descriptions), its first u rounds done. -/
structure NS2 (w wr : World) (sb stb tb mb snb cb n u : Nat) (fb : Nat → Bool) (ini : Nat → Int) (ca : Option Addr) (cc : Nat) (fa : Option Addr) (fc : Nat) : Prop where
  keep : Kp [] w wr
  sim : Blk wr sb 84 (simL tb stb mb snb cb n (cw fb false n) ca cc (.slice fa (cw fb true n) fc) 0 (.slice none 0 0) 0 0)
  st : Row wr stb 3 n (fun v => .int .i64 (st0 fb ini v))
  cor : Own wr 3 (.slice ca (cw fb false n) cc) (cw fb false n) (fun i => .int .i64 (nth fb false n i : Nat))
  fau : Own wr 3 (.slice fa (cw fb true n) fc) (cw fb true n) (fun i => .int .i64 (nth fb true n i : Nat))
  msg : Row wr mb 94 n (fun v => .pointer (if v < u then some ⟨tb, 4, none⟩ else none))
  sent : Row wr snb 30 n (fun _ => .int .u64 0)
  crash : Row wr cb 118 (n * 2) crashF

theorem NS2.step {w wr : World} {sb stb tb mb snb cb n u : Nat} {fb : Nat → Bool} {ini : Nat → Int} {ca fa : Option Addr} {cc fc : Nat} (h : NS2 w wr sb stb tb mb snb cb n u fb ini ca cc fa fc) (hw : w.heap.size ≤ mb)
    (h1 : sb ≠ mb) (h2 : stb ≠ mb) (h3 : snb ≠ mb) (h4 : cb ≠ mb) (h5 : mb ∉ blks (.slice ca (cw fb false n) cc)) (h6 : mb ∉ blks (.slice fa (cw fb true n) fc)) :
    NS2 w (wr.setCell ⟨mb, u, none⟩ (.pointer (some ⟨tb, 4, none⟩))) sb stb tb mb snb cb n (u + 1) fb ini ca cc fa fc := by
  have k := Kp.set wr mb u (.pointer (some ⟨tb, 4, none⟩))
  refine ⟨h.keep.setCell (.inr hw) _, h.sim.kp k (by simpa using h1), h.st.kp k (by simpa using h2), h.cor.kp k (fun i hi => by simp; rintro rfl; exact h5 hi), h.fau.kp k (fun i hi => by simp; rintro rfl; exact h6 hi), (h.msg.set u _).congr (fun v hv => ?_), h.sent.kp k (by simpa using h3), h.crash.kp k (by simpa using h4)⟩
  by_cases e : v = u
  · subst e; rw [if_pos rfl, if_pos (by omega)]
  · rw [if_neg e]
    by_cases e2 : v < u
    · rw [if_pos e2, if_pos (by omega)]
    · rw [if_neg e2, if_neg (by omega)]

theorem NS2.drew {w wr : World} {sb stb tb mb snb cb n u : Nat} {fb : Nat → Bool} {ini : Nat → Int} {ca fa : Option Addr} {cc fc : Nat} (h : NS2 w wr sb stb tb mb snb cb n u fb ini ca cc fa fc) : NS2 w wr.drew sb stb tb mb snb cb n u fb ini ca cc fa fc :=
  ⟨h.keep.drew, h.sim, h.st, h.cor, h.fau, h.msg, h.sent, h.crash⟩

/-- Where the parts of a Simulation lie. -/
structure SimB where
  sb : Nat
  stb : Nat
  mb : Nat
  snb : Nat
  cb : Nat
  lb : Nat
  ca : Option Addr
  cc : Nat
  fa : Option Addr
  fc : Nat

def SimB.written (B : SimB) : List Nat := [B.sb, B.stb, B.snb, B.lb]

structure SimSep (lo : Nat) (B : SimB) (kn fn : Nat) : Prop where
  l : ∀ b ∈ B.written, lo ≤ b
  d1 : B.sb ≠ B.stb
  d2 : B.sb ≠ B.snb
  d3 : B.sb ≠ B.lb
  d4 : B.stb ≠ B.snb
  d5 : B.stb ≠ B.lb
  d6 : B.snb ≠ B.lb
  c : B.cb ∉ B.written
  k : ∀ b ∈ blks (.slice B.ca kn B.cc), b ∉ B.written
  f : ∀ b ∈ blks (.slice B.fa fn B.fc), b ∉ B.written

/-- A Simulation in memory: the rounds counted so far, the states. -/
structure SimAt (w : World) (lo : Nat) (B : SimB) (tb n s : Nat) (fb : Nat → Bool) (num : Int) (st : Nat → Int) : Prop where
  sep : SimSep lo B (cw fb false n) (cw fb true n)
  sim : Blk w B.sb 84 (simL tb B.stb B.mb B.snb B.cb n (cw fb false n) B.ca B.cc (.slice B.fa (cw fb true n) B.fc) num (.slice (some ⟨B.lb, 0, none⟩) 1 1) ((2 ^ Lib.bitLen (s - 1) - 1 : Nat) : Int) ((s - 1 : Nat) : Int))
  st : Row w B.stb 3 n (fun v => .int .i64 (st v))
  cor : Own w 3 (.slice B.ca (cw fb false n) B.cc) (cw fb false n) (fun i => .int .i64 (nth fb false n i : Nat))
  fau : Own w 3 (.slice B.fa (cw fb true n) B.fc) (cw fb true n) (fun i => .int .i64 (nth fb true n i : Nat))
  sent : ∃ sv : Nat → Int, Row w B.snb 30 n (fun v => .int .u64 (sv v))
  crash : Row w B.cb 118 (n * 2) crashF
  lie : ∃ lv : Int, Row w B.lb 30 1 (fun _ => .int .u64 lv)

theorem SimAt.kp {w w' : World} {lo : Nat} {B : SimB} {tb n s : Nat} {fb : Nat → Bool} {num : Int} {st : Nat → Int} (h : SimAt w lo B tb n s fb num st) (k : Kp [] w w') : SimAt w' lo B tb n s fb num st :=
  ⟨h.sep, h.sim.kp k (by simp), h.st.kp k (by simp), h.cor.kp k (by simp), h.fau.kp k (by simp), ⟨_, h.sent.choose_spec.kp k (by simp)⟩, h.crash.kp k (by simp), ⟨_, h.lie.choose_spec.kp k (by simp)⟩⟩

/-- From the loops' end to the Simulation. -/
theorem NS2.done {w wr W : World} {sb stb tb mb snb cb lb n s : Nat} {fb : Nat → Bool} {ini : Nat → Int} {ca fa : Option Addr} {cc fc : Nat} (h : NS2 w wr sb stb tb mb snb cb n n fb ini ca cc fa fc)
    (hsep : SimSep w.heap.size ⟨sb, stb, mb, snb, cb, lb, ca, cc, fa, fc⟩ (cw fb false n) (cw fb true n))
    (hk : Kp [sb] wr W) (hsim : Blk W sb 84 (simL tb stb mb snb cb n (cw fb false n) ca cc (.slice fa (cw fb true n) fc) 0 (.slice (some ⟨lb, 0, none⟩) 1 1) ((2 ^ Lib.bitLen (s - 1) - 1 : Nat) : Int) ((s - 1 : Nat) : Int)))
    (hlie : Row W lb 30 1 (fun _ => .int .u64 0)) :
    SimAt W w.heap.size ⟨sb, stb, mb, snb, cb, lb, ca, cc, fa, fc⟩ tb n s fb 0 (st0 fb ini) ∧ Kp [] w W := by
  have n1 : stb ∉ [sb] := by have := hsep.d1; simp; exact fun e => this e.symm
  have n2 : snb ∉ [sb] := by have := hsep.d2; simp; exact fun e => this e.symm
  have n3 : cb ∉ [sb] := by have := hsep.c; simp [SimB.written] at this; simp; exact this.1
  have n4 : ∀ b ∈ blks (.slice ca (cw fb false n) cc), b ∉ [sb] := fun b hb => by have := hsep.k b hb; simp [SimB.written] at this; simp; exact this.1
  have n5 : ∀ b ∈ blks (.slice fa (cw fb true n) fc), b ∉ [sb] := fun b hb => by have := hsep.f b hb; simp [SimB.written] at this; simp; exact this.1
  refine ⟨⟨hsep, hsim, h.st.kp hk n1, h.cor.kp hk n4, h.fau.kp hk n5, ⟨fun _ => 0, h.sent.kp hk n2⟩, h.crash.kp hk n3, ⟨0, hlie⟩⟩, h.keep.trans hk ?_⟩
  intro i hi
  exact .inr (hsep.l i (by simp at hi; subst hi; simp [SimB.written]))

theorem three_heap (w : World) (o0 o1 o2 : Obj) : (((w.alloc o0).alloc o1).alloc o2).drew.heap[w.heap.size + 1]? = some o1 ∧ (((w.alloc o0).alloc o1).alloc o2).drew.heap[w.heap.size + 1 + 1]? = some o2 := by
  have e1 : w.heap.size + 1 = (w.alloc o0).heap.size := by simp
  have e2 : w.heap.size + 1 + 1 = ((w.alloc o0).alloc o1).heap.size := by simp
  refine ⟨?_, ?_⟩
  · show (((w.alloc o0).alloc o1).alloc o2).heap[_]? = _
    rw [heap_alloc_old _ _ (by rw [← e2]; omega), e1, heap_alloc_new]
  · show (((w.alloc o0).alloc o1).alloc o2).heap[_]? = _
    rw [e2, heap_alloc_new]

set_option maxHeartbeats 800000 in
theorem messages_calls (tb : Nat) (x y : Int) (w : World) : Calls Tryf.prog 48 #[.pointer (some ⟨tb, 0, none⟩), .int .i64 x, .int .i64 y] w fun e w' => e = .returned (.pointer (some ⟨tb, 4, none⟩)) ∧ w' = w := by
  go_enter Tryf.func48, Tryf.ntmps48
  go_wp2
  go_ret
  exact ⟨rfl, rfl⟩
set_option maxHeartbeats 800000 in
theorem words_calls (tb : Nat) (w : World) : Calls Tryf.prog 47 #[.pointer (some ⟨tb, 0, none⟩)] w fun e w' => e = .returned (.int .i64 1) ∧ w' = w := by
  go_enter Tryf.func47, Tryf.ntmps47
  go_wp2
  go_ret
  exact ⟨rfl, rfl⟩

set_option maxHeartbeats 3200000 in
set_option maxRecDepth 100000 in
theorem newSim_calls (tb nb wb fl n s ln fk ik : Nat) (nx : Nat → Nat) (fb : Nat → Bool) (ini : Nat → Int) (w : World) (hn1 : 1 ≤ n) (hn : n ≤ 1048576) (hs1' : 1 ≤ s) (hs2 : s ≤ 256)
    (hT : TableAt w tb nb wb fl n s ln nx) (hF : Row w fk 4 n (fun i => .bool (fb i))) (hI : Row w ik 3 n (fun i => .int .i64 (ini i))) (hfew : cnt fb n ≤ (n - 1) / 3) (hini : ∀ u, u < n → fb u = false → 0 ≤ ini u ∧ ini u < s) :
    Calls Tryf.prog 38 #[.pointer (some ⟨tb, 0, none⟩), .slice (some ⟨fk, 0, none⟩) n n, .slice (some ⟨ik, 0, none⟩) n n, .iface 67 (.agg #[])] w fun e w' => ∃ B : SimB, e = .returned (.tuple #[.pointer (some ⟨B.sb, 0, none⟩), .nilIface]) ∧ SimAt w' w.heap.size B tb n s fb 0 (st0 fb ini) ∧ Kp [] w w' := by
  obtain ⟨i0, hi, hz0, hz1, hz2⟩ := info_parts Tryf.info3
  have HCF := hid (checkFaulty_calls fk n n fb w hn hn1 (fun i h => hF.cell h) hfew)
  have t0 := hT.c0
  have HT := hid hT
  have HF := hid hF
  have HI := hid hI
  have HN := hid hini
  clear hT hF hI hini
  go_enter Tryf.func38, Tryf.ntmps38
  go_wp2_with (first
    | (go_at_call 45; refine HCF.out.mono ?_; rintro e w' ⟨rfl, rfl⟩)
    | (go_at_call 43; go_in)
    | (at_make; refine wpList_make_row _ rfl _ _ 22 rfl 3 i0 (.int .i64 0) 1 Tryf.underlying22 hi hz0 hz1 _ _ _ _ n rfl rfl rfl rfl (by rw [hz2]; omega) (by unfold maxLen; omega) (fun _ => .int .i64 0) (by rw [Nat.mul_one]; exact madeCells_one _ _) ?_; intro w1 hr1 hk1 hs1))
  rw [Nat.mul_one] at hr1
  obtain ⟨sb, hsb⟩ : ∃ sb, sb = w'.heap.size + 1 := ⟨_, rfl⟩
  obtain ⟨stb, hstb⟩ : ∃ stb, stb = w'.heap.size := ⟨_, rfl⟩
  rw [← hsb]
  have I0 : Hid (NSInv w' (w1.alloc (.cells (simL0 tb stb n (.slice none 0 0)).toArray 84)) sb stb tb n 0 fb ini none 0 none 0) := by
    refine ⟨hk1.alloc _, by omega, by omega, by omega, ?_, ?_, Own.nil _ _ _, Own.nil _ _ _, by simp [blks, Value.ownBlock], by simp [blks, Value.ownBlock]⟩
    · have := Blk.alloc_new w1 84 (simL0 tb stb n (.slice none 0 0))
      rw [hs1, ← hsb] at this
      exact this
    · rw [hstb]
      exact (hr1.alloc _).congr (fun v hv => by simp)
  rw [← hstb]
  have hwsb : w'.heap.size ≤ sb := by omega
  have hwst : w'.heap.size ≤ stb := by omega
  have hne : ¬ sb = stb := by omega
  have hne' : ¬ stb = sb := by omega
  clear hsb hstb hs1 hr1 hk1
  go_loopw [13, 54] (fun c i wr => ∃ (k : Nat) (ca : Option Addr) (cc : Nat) (fa : Option Addr) (fc : Nat), k ≤ n ∧ i = .int .i64 k ∧ c = .slice ca (cw fb false k) cc ∧ NSInv w' wr sb stb tb n k fb ini ca cc fa fc) (fun _ i _ => n - (intOf i).toNat)
  case atStart => exact ⟨0, none, 0, none, 0, by omega, rfl, rfl, I0.out⟩
  case round =>
    obtain ⟨k, ca, cc, fa, fc, hk, rfl, rfl, hinv⟩ := hrel
    have HV := hid hinv
    by_cases hlt : k < n
    · have hci := hinv.keep.cell' (HI.out.cell hlt) (by simp)
      have hcf := hinv.keep.cell' (HF.out.cell hlt) (by simp)
      have s9 := hinv.sim.cell (i := 9) rfl
      have s10 := hinv.sim.cell (i := 10) rfl
      have hct := cw_le (fb := fb) (want := true) k
      have hcc := cw_le (fb := fb) (want := false) k
      have hts := hinv.keep.cell' HT.out.c1 (by simp)
      clear hinv
      cases hb : fb k
      · rw [hb] at hcf
        have HB := hid hb
        have hin := HN.out k hlt hb
        have h0 : ¬ ini k < 0 := by omega
        have h1 : ¬ (s : Int) ≤ ini k := by omega
        clear hb s9
        go_wp2_with (first
          | (go_at_call 46; go_in)
          | (at_builtin; refine wpList_append_one rfl (.tmp 59) (.tmp 61) 22 rfl 3 i0 (.int .i64 0) 8 Tryf.underlying22 hi hz0 hz1 hz2 rfl (.slice ca (cw fb false k) cc) (cw fb false k) (fun i => .int .i64 (nth fb false n i : Nat)) rfl (HV.out.cor.alloc _) wr.heap.size 1 rfl (by rw [nth_cw hlt HB.out]; exact World.cell?_alloc_at _ _ _ _ rfl) rfl (by unfold maxLen; omega) (by omega) ?_; intro v' w2 ho2 hk2 hb2; obtain ⟨ca', cc', rfl, _⟩ := ho2.elim; have nsb : sb ∉ blks (.slice ca (cw fb false k) cc) := fun hm => (HV.out.corN _ hm).1 rfl; have nst : stb ∉ blks (.slice ca (cw fb false k) cc) := fun hm => (HV.out.corN _ hm).2.1 rfl; have q10 := ((HV.out.sim.alloc (.cells #[.int .i64 k] 3)).kp hk2 nsb).cell (i := 10) rfl; have qs := ((HV.out.st.alloc (.cells #[.int .i64 k] 3)).kp hk2 nst).cell hlt; have fs := ((HV.out.st.alloc (.cells #[.int .i64 k] 3)).kp hk2 nst).frozen k; have HO := hid ho2; have HK2 := hid hk2; have HB2 := hid hb2; clear ho2 hk2 hb2 nsb nst))
        go_roundw
        case rel => exact ⟨k + 1, ca', cc', fa, fc, by omega, by go_num, by simp [cw, HB.out], HV.out.correct hlt HB.out HO.out HK2.out HB2.out⟩
        case measure => simp [intOf]; omega
      · rw [hb] at hcf
        have HB := hid hb
        clear hb hts
        go_wp2_with (at_builtin; refine wpList_append_one rfl (.tmp 72) (.tmp 74) 22 rfl 3 i0 (.int .i64 0) 8 Tryf.underlying22 hi hz0 hz1 hz2 rfl (.slice fa (cw fb true k) fc) (cw fb true k) (fun i => .int .i64 (nth fb true n i : Nat)) rfl (HV.out.fau.alloc _) wr.heap.size 1 rfl (by rw [nth_cw hlt HB.out]; exact World.cell?_alloc_at _ _ _ _ rfl) rfl (by unfold maxLen; omega) (by omega) ?_; intro v' w2 ho2 hk2 hb2; obtain ⟨fa', fc', rfl, _⟩ := ho2.elim; have nsb : sb ∉ blks (.slice fa (cw fb true k) fc) := fun hm => (HV.out.fauN _ hm).1 rfl; have nst : stb ∉ blks (.slice fa (cw fb true k) fc) := fun hm => (HV.out.fauN _ hm).2.1 rfl; have q9 := ((HV.out.sim.alloc (.cells #[.int .i64 k] 3)).kp hk2 nsb).cell (i := 9) rfl; have f9 := ((HV.out.sim.alloc (.cells #[.int .i64 k] 3)).kp hk2 nsb).frozen 9; have q10 := ((HV.out.sim.alloc (.cells #[.int .i64 k] 3)).kp hk2 nsb).cell (i := 10) rfl; have qs := ((HV.out.st.alloc (.cells #[.int .i64 k] 3)).kp hk2 nst).cell hlt; have fs := ((HV.out.st.alloc (.cells #[.int .i64 k] 3)).kp hk2 nst).frozen k; have HO := hid ho2; have HK2 := hid hk2; have HB2 := hid hb2; clear ho2 hk2 hb2 nsb nst)
        go_roundw
        case rel => exact ⟨k + 1, ca, cc, fa', fc', by omega, by go_num, by simp [cw, HB.out], HV.out.faulty hlt HB.out HO.out HK2.out HB2.out⟩
        case measure => simp [intOf]; omega
    · obtain rfl : k = n := by omega
      have hcc := cw_le (fb := fb) (want := false) k
      clear hinv
      go_wp2_with (first
        | (go_at_call 47; go_in)
        | (go_at_call 34; refine (newRound_calls k 1 k ca (cw fb false k) cc wr (by omega) (by omega) (by omega)).mono ?_; rintro e w3 ⟨mb, snb, cb, rfl, g1, g2, g3, g4, g5, g6, rm, rs, rc, hk3⟩; have B3 := HV.out.sim.kp hk3 (by simp); have q2 := B3.cell (i := 2) rfl; have q3 := B3.cell (i := 3) rfl; have q4 := B3.cell (i := 4) rfl; have q5 := B3.cell (i := 5) rfl; have q6 := B3.cell (i := 6) rfl; have q7 := B3.cell (i := 7) rfl; have q8 := B3.cell (i := 8) rfl; have fz := B3.frozen))
      have hlt3 : wr.heap.size ≤ w3.heap.size := hk3.size
      have hsl := HV.out.sim.lt
      have hstl := HV.out.st.lt
      have hwl := HV.out.keep.size
      have ncm : ∀ b, wr.heap.size ≤ b → b ∉ blks (.slice ca (cw fb false k) cc) := fun b hb hm => by have := HV.out.cor.lt b hm; omega
      have nfm : ∀ b, wr.heap.size ≤ b → b ∉ blks (.slice fa (cw fb true k) fc) := fun b hb hm => by have := HV.out.fau.lt b hm; omega
      have N2 : Hid (NS2 w' (((((((w3.setCell ⟨sb, 2, none⟩ (.int .i64 0)).setCell ⟨sb, 3, none⟩ (.slice ca (cw fb false k) cc)).setCell ⟨sb, 4, none⟩ (.int .i64 1)).setCell ⟨sb, 5, none⟩ (.slice (some ⟨mb, 0, none⟩) k k)).setCell ⟨sb, 6, none⟩ (.slice (some ⟨snb, 0, none⟩) k k)).setCell ⟨sb, 7, none⟩ (.slice (some ⟨cb, 0, none⟩) k k)).setCell ⟨sb, 8, none⟩ (.slice none 0 0)) sb stb tb mb snb cb k 0 fb ini ca cc fa fc) := by
        have kk : Kp [sb] w3 _ := ((((((Kp.set w3 sb 2 (.int .i64 0)).setCell (p := ⟨sb, 3, none⟩) (.inl (by simp)) (.slice ca (cw fb false k) cc)).setCell (p := ⟨sb, 4, none⟩) (.inl (by simp)) (.int .i64 1)).setCell (p := ⟨sb, 5, none⟩) (.inl (by simp)) (.slice (some ⟨mb, 0, none⟩) k k)).setCell (p := ⟨sb, 6, none⟩) (.inl (by simp)) (.slice (some ⟨snb, 0, none⟩) k k)).setCell (p := ⟨sb, 7, none⟩) (.inl (by simp)) (.slice (some ⟨cb, 0, none⟩) k k)).setCell (p := ⟨sb, 8, none⟩) (.inl (by simp)) (.slice none 0 0)
        refine ⟨(HV.out.keep.trans hk3 (by simp)).trans kk (by simpa using hwsb), ((((((B3.set 2 _).set 3 _).set 4 _).set 5 _).set 6 _).set 7 _).set 8 _, ((HV.out.st.kp hk3 (by simp)).kp kk (by have := HV.out.ne; simp; omega)).congr (fun v hv => by rw [if_pos hv]), (HV.out.cor.kp hk3 (by simp)).kp kk (fun i hi => by have := (HV.out.corN i hi).1; simpa using this), (HV.out.fau.kp hk3 (by simp)).kp kk (fun i hi => by have := (HV.out.fauN i hi).1; simpa using this), (rm.kp kk (by simp; omega)).congr (fun v hv => by simp), rs.kp kk (by simp; omega), rc.kp kk (by simp; omega)⟩
      clear B3 q2 q3 q4 q5 q6 q7 q8 fz rm rs rc
      go_loopw [118] (fun i wq => ∃ u : Nat, u ≤ k ∧ i = .int .i64 u ∧ NS2 w' wq sb stb tb mb snb cb k u fb ini ca cc fa fc) (fun i _ => k - (intOf i).toNat)
      case atStart => exact ⟨0, by omega, rfl, N2.out⟩
      case round =>
        obtain ⟨u, hu, rfl, hn2⟩ := hrel
        have H2 := hid hn2
        by_cases hul : u < k
        · have c5 := hn2.sim.cell (i := 5) rfl
          have cm := hn2.msg.cell hul
          rw [if_neg (Nat.lt_irrefl u)] at cm
          have fm := hn2.msg.frozen u
          have HM48 := hid (fun (w : World) => messages_calls tb 1 u w)
          clear hn2
          go_wp2_with fail
          go_region_with (go_at_call 48; refine (HM48.out _).mono ?_; rintro e w9 ⟨rfl, rfl⟩)
          all_goals
            go_wp2
            go_roundw
            case rel => exact ⟨u + 1, by omega, by go_num, (H2.out.step (by omega) (by omega) (by omega) (by omega) (by omega) (ncm _ g1) (nfm _ g1)).drew⟩
            case measure => simp [intOf]; omega
        · obtain rfl : u = k := by omega
          have tt := HT.out
          have t4 := hn2.keep.cell' tt.c4 (by simp)
          have f0 := hn2.keep.cell' tt.f0 (by simp)
          have f1 := hn2.keep.cell' tt.f1 (by simp)
          have q11 := hn2.sim.cell (i := 11) rfl
          have q12 := hn2.sim.cell (i := 12) rfl
          have q13 := hn2.sim.cell (i := 13) rfl
          have fz := hn2.sim.frozen
          have hsq := hn2.sim.lt
          have hsq1 : sb < wr.heap.size + 1 := by omega
          have hsq2 : sb < wr.heap.size + 1 + 1 := by omega
          have hsq3 : sb < wr.heap.size + 1 + 1 + 1 := by omega
          have HW := hid (fun (w : World) => words_calls tb w)
          have HMk := hid (fun (w : World) => mask_calls s w hs1' hs2)
          obtain ⟨i2, b1, b2, b3, b4⟩ := info_parts Tryf.info30
          obtain ⟨Z, HZ, r1⟩ := make_run (P := Tryf.prog) 74 30 i2 _ 1 Tryf.underlying74 b1 b2 b3 (1 : Int) 1 rfl (by rw [b4]; omega) (by unfold maxLen; omega) (fun _ => .int .u64 0) (by rw [Nat.mul_one]; exact madeCells_one _ _)
          obtain ⟨M, hM⟩ : ∃ M, M = 2 ^ Lib.bitLen (s - 1) - 1 := ⟨_, rfl⟩
          rw [← hM] at HMk
          have HMM := hid hM
          clear hn2 tt hM b1 b2 b3 b4
          go_wp2_with fail
          have hs1u : IntKind.u64.wrap (IntKind.i64.wrap ((s : Int) - 1)) = ((s - 1 : Nat) : Int) := by rw [IntKind.wrap_i64, IntKind.wrap_u64]; omega
          have HS : Hid (∀ lb, wr.heap.size ≤ lb → SimSep w'.heap.size ⟨sb, stb, mb, snb, cb, lb, ca, cc, fa, fc⟩ (cw fb false u) (cw fb true u)) := by
            intro lb hlb
            have h2 := H2.out.sent.lt
            have h3 := H2.out.crash.lt
            have h4 := H2.out.st.lt
            refine ⟨by simp [SimB.written]; omega, hne, by simp; omega, by simp; omega, by simp; omega, by simp; omega, by simp; omega, by simp [SimB.written]; omega, fun b hb => ?_, fun b hb => ?_⟩
            · have := HV.out.corN b hb
              have := HV.out.cor.lt b hb
              simp [SimB.written]; omega
            · have := HV.out.fauN b hb
              have := HV.out.fau.lt b hb
              simp [SimB.written]; omega
          have HS1 := hid hs1u
          clear hs1u
          rw [Nat.mul_one] at HZ
          clear N2 HV HCF t0 HI HF HT t4 f0 f1 g1 g2 g3 g4 g5 g6 hk3 hlt3 hsl hstl hwl ncm nfm hu hul hk hlt hcc hi hz0 hz1 hz2 HN hwsb hwst hne hne' hn1 hn hfew
          go_region_held3 (fun w9 => w9.cell? ⟨wr.heap.size, 0, none⟩ = some (.int .i64 0) ∧ w9.cell? ⟨wr.heap.size, 1, none⟩ = some (.int .i64 s)) (first | (go_keep; done) | (refine ⟨(cell_under _ _ _ _ _ _ _ ?_).trans rfl, (cell_under _ _ _ _ _ _ _ ?_).trans rfl⟩ <;> simp only [size_set]))
            (first | (go_at_call 47; refine (HW.out _).mono ?_; rintro e w9 ⟨rfl, rfl⟩) | (go_at_call 49; refine (HMk.out _).mono ?_; rintro e w9 ⟨rfl, rfl⟩))
          all_goals go_wp2
          all_goals go_ret2
          · have th := (three_heap (((wr.setCell ⟨sb, 11, none⟩ (.slice (some ⟨wr.heap.size + 1, 0, none⟩) 1 1)).setCell ⟨sb, 12, none⟩ (.int .u64 M)).setCell ⟨sb, 13, none⟩ (.int .u64 (IntKind.u64.wrap (IntKind.i64.wrap ((s : Int) - 1))))) (.cells #[.int .i64 0, .int .i64 s] 72) (.cells Z 30) (.cells #[.int .i64 0, .int .i64 s] 72)).1
            rw [size_set, size_set, size_set] at th
            refine ⟨⟨sb, stb, mb, snb, cb, wr.heap.size + 1, ca, cc, fa, fc⟩, rfl, H2.out.done (HS.out _ (by omega)) ?_ ?_ (Row.of_heap th HZ)⟩
            · exact ((((((Kp.set _ _ _ _).setCell (.inl (by simp)) _).setCell (.inl (by simp)) _).alloc _).alloc _).alloc _).drew
            · rw [← HMM.out, ← HS1.out]
              exact (((((((H2.out.sim.set 11 _).set 12 _).set 13 _).alloc _).alloc _).alloc _).drew)
          · have th := (three_heap (((wr.setCell ⟨sb, 11, none⟩ (.slice (some ⟨wr.heap.size + 1 + 1, 0, none⟩) 1 1)).setCell ⟨sb, 12, none⟩ (.int .u64 M)).setCell ⟨sb, 13, none⟩ (.int .u64 (IntKind.u64.wrap (IntKind.i64.wrap ((s : Int) - 1))))) (.cells #[.int .i64 0, .int .i64 s] 72) (.cells #[.int .i64 0, .int .i64 s] 72) (.cells Z 30)).2
            rw [size_set, size_set, size_set] at th
            refine ⟨⟨sb, stb, mb, snb, cb, wr.heap.size + 1 + 1, ca, cc, fa, fc⟩, rfl, H2.out.done (HS.out _ (by omega)) ?_ ?_ (Row.of_heap th HZ)⟩
            · exact ((((((Kp.set _ _ _ _).setCell (.inl (by simp)) _).setCell (.inl (by simp)) _).alloc _).alloc _).alloc _).drew
            · rw [← HMM.out, ← HS1.out]
              exact (((((((H2.out.sim.set 11 _).set 12 _).set 13 _).alloc _).alloc _).alloc _).drew)
end Go.Proofs.Qxb6615056aFmt

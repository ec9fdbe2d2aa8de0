/-
  MEMORY: plain laws on the model's worlds that the walks of this seat share: rows ('Row': a block that holds exactly these cells), and what a call keeps ('Kp').
-/
import Derived.WalkKit
import Derived.ProofKit
import Derived.Below
import Derived.Laws.CopyOwn
import Derived.Deep.QuietTactic
import Derived.BigQuiet
import Derived.RegionTactic
import Derived.Deep.RegionWith
import Derived.WalkSpells
import Derived.WalkSmall
namespace Go.Tocsin
open Go.RowKit

theorem hid {p : Prop} (h : p) : Hid p := h

/-- The call answers a bool; where it says true, P. -/
def SaysB (P : Prop) (e : Ending) : Prop := ∃ β, e = .returned (.bool β) ∧ (β = true → P)
theorem SaysB.no (P : Prop) : SaysB P (.returned (.bool false)) := ⟨false, rfl, fun h => by cases h⟩
theorem SaysB.yes {P : Prop} (h : P) : SaysB P (.returned (.bool true)) := ⟨true, rfl, fun _ => h⟩

/-- Block g of w is a row of exactly n cells F 0 .. F (n-1), of element type t, nothing frozen. -/
def Row (w : World) (g : Nat) (t : TypeId) (n : Nat) (F : Nat → Value) : Prop :=
  w.heap[g]? = some (.cells ((List.range n).map F).toArray t (0, 0))

/-- Everything that was there is as it was, but for the blocks listed in S. -/
structure Kp (S : List Nat) (w w' : World) : Prop where
  os : w'.os = w.os
  tape : w'.tape = w.tape
  output : w'.output = w.output
  size : w.heap.size ≤ w'.heap.size
  block : ∀ k, k < w.heap.size → k ∉ S → w'.heap[k]? = w.heap[k]?

theorem Kp.refl (S : List Nat) (w : World) : Kp S w w := ⟨rfl, rfl, rfl, Nat.le_refl _, fun _ _ _ => rfl⟩

/-- Two steps: what the second may write was written by the first too, or was not there at the start. -/
theorem Kp.trans {S S' : List Nat} {a b c : World} (h : Kp S a b) (k : Kp S' b c) (hs : ∀ i ∈ S', i ∈ S ∨ a.heap.size ≤ i) : Kp S a c :=
  ⟨k.os.trans h.os, k.tape.trans h.tape, k.output.trans h.output, Nat.le_trans h.size k.size, fun i hi hn =>
    (k.block i (Nat.lt_of_lt_of_le hi h.size) (fun hm => by rcases hs i hm with h1 | h1; exact hn h1; omega)).trans (h.block i hi hn)⟩

theorem Kp.weaken {S S' : List Nat} {a b : World} (h : Kp S a b) (hs : ∀ i ∈ S, i ∈ S' ∨ a.heap.size ≤ i) : Kp S' a b :=
  ⟨h.os, h.tape, h.output, h.size, fun i hi hn => h.block i hi (fun hm => by rcases hs i hm with h1 | h1; exact hn h1; omega)⟩

theorem Kp.drew {S : List Nat} {a w : World} (h : Kp S a w) : Kp S a w.drew := ⟨h.os, h.tape, h.output, h.size, h.block⟩
theorem Kp.drewN {S : List Nat} {a w : World} (h : Kp S a w) (n : Nat) : Kp S a (w.drewN n) := ⟨h.os, h.tape, h.output, h.size, h.block⟩
theorem Kp.alloc {S : List Nat} {a w : World} (h : Kp S a w) (o : Obj) : Kp S a (w.alloc o) :=
  ⟨h.os, h.tape, h.output, by have := h.size; simp; omega, fun k hk hn => (Below.heap_alloc _ _ _ (by have := h.size; omega)).trans (h.block k hk hn)⟩
theorem Kp.setCell {S : List Nat} {a w : World} (h : Kp S a w) {p : Addr} (hp : p.block ∈ S ∨ a.heap.size ≤ p.block) (u : Value) : Kp S a (w.setCell p u) :=
  ⟨h.os, h.tape, h.output, by have := h.size; simp [World.setCell]; omega, fun k hk hn =>
    (Below.heap_setCell _ _ _ _ (fun e => by rcases hp with h1 | h1; exact hn (e ▸ h1); omega)).trans (h.block k hk hn)⟩

theorem Kp.of_below {w w' : World} (h : Below w.heap.size w w') (S : List Nat) : Kp S w w' := ⟨h.os, h.tape, h.output, h.size, fun k hk _ => h.block k hk⟩
theorem Kp.below {S : List Nat} {w w' : World} (h : Kp S w w') {B : Nat} (hB : B ≤ w.heap.size) (hs : ∀ i ∈ S, B ≤ i) : Below B w w' :=
  ⟨h.os, h.tape, h.output, h.size, fun k hk => h.block k (by omega) (fun hm => by have := hs k hm; omega)⟩
theorem Kp.of_grown {w w' : World} {row : Option Nat} (h : w.grownBy w' row) {S : List Nat} (hs : ∀ k, row = some k → k ∈ S) : Kp S w w' :=
  ⟨h.os, h.tape, h.output, h.size, fun k hk hn => h.block k hk (fun e => hn (hs k e.symm))⟩

theorem Kp.cell {S : List Nat} {w w' : World} (h : Kp S w w') {p : Addr} (hp : p.block < w.heap.size) (hn : p.block ∉ S) : w'.cell? p = w.cell? p :=
  World.cell?_of_block (w := w) (h.block p.block hp hn)
theorem Kp.frozen {S : List Nat} {w w' : World} (h : Kp S w w') {p : Addr} (hp : p.block < w.heap.size) (hn : p.block ∉ S) : w'.frozen? p = w.frozen? p :=
  World.frozen?_of_block (w := w) (h.block p.block hp hn)
/-- A cell that is there stays there. -/
theorem Kp.cell' {S : List Nat} {w w' : World} (h : Kp S w w') {p : Addr} {v : Value} (hc : w.cell? p = some v) (hn : p.block ∉ S) : w'.cell? p = some v :=
  (h.cell (World.block_lt_of_cell? w p hc) hn).trans hc

section
variable {w : World} {g n : Nat} {t : TypeId} {F : Nat → Value}

theorem lt_of_heap {w : World} {g : Nat} {o : Obj} (h : w.heap[g]? = some o) : g < w.heap.size := by
  have := (Array.getElem?_eq_some_iff.1 h).1
  exact this
theorem Row.lt (h : Row w g t n F) : g < w.heap.size := lt_of_heap h
theorem Row.cell (h : Row w g t n F) {i : Nat} (hi : i < n) : w.cell? ⟨g, i, none⟩ = some (F i) := by
  unfold Row at h
  simp [World.cell?, h, hi]
theorem Row.frozen (h : Row w g t n F) (i : Nat) : w.frozen? ⟨g, i, none⟩ = false := by
  unfold Row at h
  simp [World.frozen?, h]
theorem Row.kp {S : List Nat} {w' : World} (h : Row w g t n F) (k : Kp S w w') (hn : g ∉ S) : Row w' g t n F :=
  (k.block g h.lt hn).trans h
theorem Row.below {B : Nat} {w' : World} (h : Row w g t n F) (k : Below B w w') (hB : g < B) : Row w' g t n F :=
  (k.block g hB).trans h
theorem Row.congr {G : Nat → Value} (h : Row w g t n F) (he : ∀ i, i < n → F i = G i) : Row w g t n G := by
  unfold Row at *
  rw [h]
  congr 2
  apply congrArg
  apply List.map_congr_left
  intro i hi
  exact he i (by simpa using hi)
theorem Row.drew (h : Row w g t n F) : Row w.drew g t n F := h
theorem Row.drewN (h : Row w g t n F) (k : Nat) : Row (w.drewN k) g t n F := h
theorem Row.alloc (h : Row w g t n F) (o : Obj) : Row (w.alloc o) g t n F := (Below.heap_alloc _ _ _ h.lt).trans h
theorem Row.alloc_new (w : World) (t : TypeId) (n : Nat) (F : Nat → Value) : Row (w.alloc (.cells ((List.range n).map F).toArray t)) w.heap.size t n F := by
  unfold Row
  exact heap_alloc_new w _
theorem set_range (n i : Nat) (F : Nat → Value) (v : Value) : ((List.range n).map F).set i v = (List.range n).map (fun j => if j = i then v else F j) := by
  apply List.ext_getElem?
  intro k
  rw [List.getElem?_set]
  by_cases hk : k < n
  · by_cases e : i = k
    · subst e; simp [hk]
    · have e' : ¬ k = i := fun h => e h.symm
      simp [hk, e, e']
  · by_cases e : i = k
    · subst e; simp [hk]
    · simp [hk, e]
theorem Row.set (h : Row w g t n F) (i : Nat) (v : Value) : Row (w.setCell ⟨g, i, none⟩ v) g t n (fun j => if j = i then v else F j) := by
  unfold Row at *
  simp only [World.setCell, Array.getElem?_modify]
  simp [h, set_range]
theorem Row.other (h : Row w g t n F) {p : Addr} (hp : g ≠ p.block) (v : Value) : Row (w.setCell p v) g t n F := by
  unfold Row at *
  rw [Below.heap_setCell _ _ _ _ hp, h]
/-- A made row. -/
theorem madeCells_one (z : Value) (n : Nat) : madeCells #[z] n = ((List.range n).map fun _ => z).toArray := by
  apply Array.ext'
  rw [toList_madeCells_one]
  apply List.ext_getElem?
  intro k
  by_cases hk : k < n <;> simp [hk]
end

/-- The cells of a row of values that came in, copied: what 'copy' asks of its source. -/
theorem src_of {w : World} {b off n : Nat} {F : Nat → Value} (hc : ∀ i, i < n → w.cell? ⟨b, off + i, none⟩ = some (F i)) :
    ∀ j v, ((List.range n).map F)[j]? = some v → w.cell? ((⟨b, off, none⟩ : Addr).add j) = some v := by
  intro j v hj
  have hjn : j < n := by
    have := (List.getElem?_eq_some_iff.1 hj).1
    simpa using this
  rw [Addr.add_lit, hc j hjn]
  simp [hjn] at hj
  rw [hj]

theorem splice_whole {α : Type} (L cs : List α) (h : cs.length = L.length) : splice L 0 cs = cs := by
  simp [splice, h]

theorem madeCells_two (z0 z1 : Value) (m : Nat) : madeCells #[z0, z1] m = ((List.range m).map fun j => if j % 2 = 0 then z0 else z1).toArray := by
  apply Array.ext'
  simp only [madeCells, List.size_toArray, List.length_cons, List.length_nil, Array.toList_map, Array.toList_range]
  apply List.map_congr_left
  intro j _
  have : j % 2 = 0 ∨ j % 2 = 1 := by omega
  rcases this with h | h <;> simp [h]

/-- 'make([]T, l)' as an equation on the operation's run, the new row under a name (for a region that draws its order). -/
theorem make_run {P : Program} (t e : TypeId) (i : TypeInfo) (z : Value) (size : Nat) (h1 : P.underlying t = some (.slice e)) (h2 : P.info? e = some i) (h3 : i.zero = some z) (h4 : i.size = size)
    (L : Int) (n : Nat) (hL : L = (n : Int)) (b2 : i.bytes * n ≤ 281474976710656) (b3 : n ≤ maxLen) (F : Nat → Value) (hF : madeCells z.cells (n * size) = ((List.range (n * size)).map F).toArray) :
    ∃ Z : Array Value, Hid (Z = ((List.range (n * size)).map F).toArray) ∧ ∀ w : World, (Instr.makeSlice t (.int .i64 L) (.int .i64 L)).run P w = .ok (.slice (some ⟨w.heap.size, 0, none⟩) n n) (w.alloc (.cells Z e)) := by
  subst hL
  subst h4
  refine ⟨_, rfl, fun w => ?_⟩
  have h63' : (n : Int) ≤ 9223372036854775807 := by
    have h := b3
    simp [maxLen] at h
    omega
  have hb' : (i.bytes : Int) * (n : Int) ≤ 281474976710656 := by
    have h : ((i.bytes * n : Nat) : Int) ≤ 281474976710656 := by omega
    rwa [Int.natCast_mul] at h
  have hrun := run_make (P := P) w t e i z h1 h2 h3 .i64 .i64 n n (by omega) (by omega) hb' h63'
  simp only [Int.toNat_natCast] at hrun
  rw [hrun, hF]

theorem four_heap (w : World) (o0 o1 o2 o3 : Obj) : ((((w.alloc o0).alloc o1).alloc o2).alloc o3).drew.heap[w.heap.size + 1]? = some o1 ∧ ((((w.alloc o0).alloc o1).alloc o2).alloc o3).drew.heap[w.heap.size + 1 + 1]? = some o2 ∧
    ((((w.alloc o0).alloc o1).alloc o2).alloc o3).drew.heap[w.heap.size + 1 + 1 + 1]? = some o3 ∧ Kp [] w ((((w.alloc o0).alloc o1).alloc o2).alloc o3).drew := by
  have e1 : w.heap.size + 1 = (w.alloc o0).heap.size := by simp
  have e2 : w.heap.size + 1 + 1 = ((w.alloc o0).alloc o1).heap.size := by simp
  have e3 : w.heap.size + 1 + 1 + 1 = (((w.alloc o0).alloc o1).alloc o2).heap.size := by simp
  refine ⟨?_, ?_, ?_, ((((Kp.refl _ _).alloc _).alloc _).alloc _).alloc _ |>.drew⟩
  · show (((((w.alloc o0).alloc o1).alloc o2).alloc o3)).heap[_]? = _
    rw [heap_alloc_old _ _ (by rw [← e3]; omega), heap_alloc_old _ _ (by rw [← e2]; omega), e1, heap_alloc_new]
  · show (((((w.alloc o0).alloc o1).alloc o2).alloc o3)).heap[_]? = _
    rw [heap_alloc_old _ _ (by rw [← e3]; omega), e2, heap_alloc_new]
  · show (((((w.alloc o0).alloc o1).alloc o2).alloc o3)).heap[_]? = _
    rw [e3, heap_alloc_new]

theorem Row.of_heap {w : World} {g n : Nat} {t : TypeId} {F : Nat → Value} {Z : Array Value} (h : w.heap[g]? = some (.cells Z t (0, 0))) (hZ : Hid (Z = ((List.range n).map F).toArray)) : Row w g t n F := by
  rw [hZ.out] at h
  exact h

/-- 'make([]T, n)', T of one cell: a new row of n zero values, in whatever world; nothing else turned. -/
theorem wpList_make_row {P : Program} (w : World) {ops : Array Oper} {rest : List Oper} {o : Oper} {a : Act} {Q : Exit → Act → World → Prop}
    (hg : o.guard = none) (l c : Operand) (t : TypeId) (hop : o.op = Op.makeSlice t l c)
    (e : TypeId) (i : TypeInfo) (z : Value) (size : Nat) (h1 : P.underlying t = some (.slice e)) (h2 : P.info? e = some i) (h3 : i.zero = some z) (h4 : i.size = size)
    (kl kc : IntKind) (L C : Int) (n : Nat) (hl : a.eval l = .int kl L) (hc : a.eval c = .int kc C) (hL : L = (n : Int)) (hC : C = (n : Int)) (b2 : i.bytes * n ≤ 281474976710656) (b3 : n ≤ maxLen)
    (F : Nat → Value) (hF : madeCells z.cells (n * size) = ((List.range (n * size)).map F).toArray)
    (hK : ∀ w', Row w' w.heap.size e (n * size) F → Kp [] w w' → w'.heap.size = w.heap.size + 1 → wpList P ops Q rest (a.put o.dst (.slice (some ⟨w.heap.size, 0, none⟩) n n)) w') :
    wpList P ops Q (o :: rest) a w := by
  refine wpList_plain hg fun K hK' => ?_
  subst hL
  subst hC
  subst h4
  have h63' : (n : Int) ≤ 9223372036854775807 := by
    have h := b3
    simp [maxLen] at h
    omega
  have hb' : (i.bytes : Int) * (n : Int) ≤ 281474976710656 := by
    have h : ((i.bytes * n : Nat) : Int) ≤ 281474976710656 := by omega
    rwa [Int.natCast_mul] at h
  have hrun := run_make (P := P) w t e i z h1 h2 h3 kl kc n n (by omega) (by omega) hb' h63'
  simp only [Int.toNat_natCast] at hrun
  unfold Oper.wp
  simp [execOp, hop, hl, hc, hrun, Result.andThen]
  refine hK' _ _ (hK _ ?_ ((Kp.refl _ _).alloc _) (by simp))
  rw [hF]
  exact Row.alloc_new w e _ F

/-- 'copy(dst, src)', dst a whole row of the call's own, src as long: the row then holds the source's cells. -/
theorem wpList_copy_row {P : Program} {w : World} {ops : Array Oper} {rest : List Oper} {dst : Option Nat} {ty : TypeId} {pos : String} {af : Array Edge} {a : Act} {Q : Exit → Act → World → Prop} {d s : Operand} {dT sT : TypeId}
    (elem : TypeId) (hu : P.underlying dT = some (.slice elem)) (hsz : (P.info? elem).map (·.size) = some 1)
    (g n dCap b off sCap : Nat) (hd : a.eval d = .slice (some ⟨g, 0, none⟩) n dCap) (hs : a.eval s = .slice (some ⟨b, off, none⟩) n sCap)
    (F G : Nat → Value) (hrow : Row w g elem n F) (hsrc : ∀ i, i < n → w.cell? ⟨b, off + i, none⟩ = some (G i)) (h1 : ∀ i, (G i).oneCell' = true)
    (h : ∀ w', Row w' g elem n G → Kp [g] w w' → w'.heap.size = w.heap.size → wpList P ops Q rest (a.put dst (goInt n)) w') :
    wpList P ops Q ({ dst := dst, op := .call { callee := .builtin .copy, args := #[d, s], argTypes := #[dT, sT] }, type := ty, pos := pos, after := af, guard := none } :: rest) a w := by
  have hlen : ((List.range n).map G).length = n := by simp
  refine wpList_copy_own rfl d s dT sT rfl elem hu hsz g 0 n dCap ⟨b, off, none⟩ n sCap hd hs ((List.range n).map F).toArray elem hrow ((List.range n).map G) (by rw [hlen]; simp) (src_of hsrc) (by simp) ?_ ?_
  · intro v hv
    obtain ⟨i, _, rfl⟩ := List.mem_map.1 hv
    exact h1 i
  · rw [hlen]
    refine h _ ?_ ⟨rfl, rfl, rfl, by simp [World.setRow], fun k _ hn => setRow_other w g k _ (by simpa using hn)⟩ (by simp [World.setRow])
    have := setRow_heap w g ((List.range n).map F).toArray ((List.range n).map G).toArray elem _ hrow
    have hdr : List.drop n (List.map F (List.range n)) = [] := List.drop_eq_nil_of_le (by simp)
    unfold Row
    simpa [hdr] using this

/-- Block g is exactly the cells L. -/
def Blk (w : World) (g : Nat) (t : TypeId) (L : List Value) : Prop := w.heap[g]? = some (.cells L.toArray t (0, 0))
theorem Blk.lt {w : World} {g : Nat} {t : TypeId} {L : List Value} (h : Blk w g t L) : g < w.heap.size := lt_of_heap h
theorem Blk.cell {w : World} {g : Nat} {t : TypeId} {L : List Value} (h : Blk w g t L) {i : Nat} {v : Value} (hi : L[i]? = some v) : w.cell? ⟨g, i, none⟩ = some v := by
  unfold Blk at h
  simp [World.cell?, h, hi]
theorem Blk.frozen {w : World} {g : Nat} {t : TypeId} {L : List Value} (h : Blk w g t L) (i : Nat) : w.frozen? ⟨g, i, none⟩ = false := by
  unfold Blk at h
  simp [World.frozen?, h]
theorem Blk.kp {w w' : World} {g : Nat} {t : TypeId} {L : List Value} {S : List Nat} (h : Blk w g t L) (k : Kp S w w') (hn : g ∉ S) : Blk w' g t L := (k.block g h.lt hn).trans h
theorem Blk.drew {w : World} {g : Nat} {t : TypeId} {L : List Value} (h : Blk w g t L) : Blk w.drew g t L := h
theorem Blk.drewN {w : World} {g : Nat} {t : TypeId} {L : List Value} (h : Blk w g t L) (k : Nat) : Blk (w.drewN k) g t L := h
theorem Blk.alloc {w : World} {g : Nat} {t : TypeId} {L : List Value} (h : Blk w g t L) (o : Obj) : Blk (w.alloc o) g t L := (Below.heap_alloc _ _ _ h.lt).trans h
theorem Blk.alloc_new (w : World) (t : TypeId) (L : List Value) : Blk (w.alloc (.cells L.toArray t)) w.heap.size t L := heap_alloc_new w _
theorem Blk.set {w : World} {g : Nat} {t : TypeId} {L : List Value} (h : Blk w g t L) (i : Nat) (v : Value) : Blk (w.setCell ⟨g, i, none⟩ v) g t (L.set i v) := by
  unfold Blk at *
  simp only [World.setCell, Array.getElem?_modify]
  simp [h]
theorem Blk.other {w : World} {g : Nat} {t : TypeId} {L : List Value} (h : Blk w g t L) {p : Addr} (hp : g ≠ p.block) (v : Value) : Blk (w.setCell p v) g t L := by
  unfold Blk at *
  rw [Below.heap_setCell _ _ _ _ hp, h]
theorem Kp.set (w : World) (g i : Nat) (v : Value) : Kp [g] w (w.setCell ⟨g, i, none⟩ v) := (Kp.refl [g] w).setCell (.inl (by simp)) v

/-! ### A slice that the call itself appends to -/

/-- The slice value v owns n cells F 0 .. F (n-1) (it may be nil where n = 0), with spare room as it may be. -/
def Own (w : World) (t : TypeId) (v : Value) (n : Nat) (F : Nat → Value) : Prop := w.ownsRow 0 t 1 v n ((List.range n).map F)
def blks (v : Value) : List Nat := v.ownBlock.toList

theorem Own.nil (w : World) (t : TypeId) (F : Nat → Value) : Own w t (.slice none 0 0) 0 F := World.ownsRow_nil w 0 t 1
theorem Own.lt {w : World} {t : TypeId} {v : Value} {n : Nat} {F : Nat → Value} (h : Own w t v n F) : ∀ k ∈ blks v, k < w.heap.size := by
  intro k hk
  exact (World.ownsRow.lt h k (by simpa [blks] using hk)).2
theorem Own.kp {w w' : World} {t : TypeId} {v : Value} {n : Nat} {F : Nat → Value} {S : List Nat} (h : Own w t v n F) (k : Kp S w w') (hn : ∀ i ∈ blks v, i ∉ S) : Own w' t v n F := by
  obtain ⟨h1, h2⟩ := h
  refine ⟨h1, ?_⟩
  rcases h2 with h2 | ⟨g, cap, cur, rfl, hb, hg, rest⟩
  · exact .inl h2
  · exact .inr ⟨g, cap, cur, rfl, hb, (k.block g (lt_of_heap hg) (hn g (by simp [blks, Value.ownBlock]))).trans hg, rest⟩
theorem Own.alloc {w : World} {t : TypeId} {v : Value} {n : Nat} {F : Nat → Value} (h : Own w t v n F) (o : Obj) : Own (w.alloc o) t v n F := World.ownsRow.alloc h o
theorem Own.elim {w : World} {t : TypeId} {v : Value} {n : Nat} {F : Nat → Value} (h : Own w t v n F) :
    ∃ a cap, v = .slice a n cap ∧ (0 < n → ∃ b, a = some ⟨b, 0, none⟩ ∧ blks v = [b] ∧ ∀ i, i < n → w.cell? ⟨b, i, none⟩ = some (F i)) := by
  obtain ⟨h1, h2⟩ := h
  rcases h2 with ⟨rfl, rfl⟩ | ⟨g, cap, cur, rfl, hb, hg, hnc, hcm, hcs, htake⟩
  · exact ⟨none, 0, rfl, fun h => by omega⟩
  · refine ⟨_, cap, rfl, fun _ => ⟨g, rfl, rfl, fun i hi => ?_⟩⟩
    have h3 : (cur.toList.take (n * 1))[i]? = some (F i) := by rw [htake]; simp [hi]
    rw [List.getElem?_take_of_lt (by omega)] at h3
    simp [World.cell?, hg]
    simpa using h3

theorem run_append_fresh {P : Program} (w : World) (base : Nat) (t ty e : TypeId) (i : TypeInfo) (z : Value) (size bytes : Nat) (ht : P.underlying t = some (.slice e)) (hi : P.info? e = some i) (hz : i.zero = some z)
    (hsize : i.size = size) (hby : i.bytes = bytes) (hzs : z.cells.size = size) (hsz : 0 < size)
    (v : Value) (n : Nat) (xs : List Value) (hown : w.ownsRow base e size v n xs)
    (a : Addr) (m c : Nat) (news : List Value) (hl : news.length = m * size) (hnews : ∀ j u, news[j]? = some u → w.cell? (a.add j) = some u) (h1 : ∀ u ∈ news, u.oneCell' = true)
    (h63 : n + m ≤ maxLen) (hbytes : (n + m) * bytes ≤ 140737488355328) (hbase : base ≤ w.heap.size) :
    ∃ v' w', (Builtin.append_ #[t, t] ty #[v, .slice (some a) m c]).run P w = .ok v' w' ∧ w'.ownsRow base e size v' (n + m) (xs ++ news) ∧ w.grownBy w' v.ownBlock ∧
      (∀ k, v'.ownBlock = some k → v.ownBlock = some k ∨ w.heap.size ≤ k) := by
  obtain ⟨v', w', hr, r1, r2, _⟩ := run_append_own (P := P) w base t ty e i z size bytes ht hi hz hsize hby hzs hsz v n xs hown a m c news hl hnews h1 h63 hbytes hbase
  refine ⟨v', w', hr, r1, r2, ?_⟩
  have hsmall : n + m ≤ 9223372036854775807 := by simp only [maxLen] at h63; omega
  have hown' := hown
  rcases hown.2 with ⟨rfl, rfl⟩ | ⟨g, cap, cur, rfl, hbg, hg, hnc, hcm, hcs, htake⟩
  · obtain ⟨v'', w'', hr', r1', _, _⟩ := run_append_own (P := P) w w.heap.size t ty e i z size bytes ht hi hz hsize hby hzs hsz (.slice none 0 0) 0 xs ⟨hown.1, .inl ⟨rfl, rfl⟩⟩ a m c news hl hnews h1 h63 hbytes (Nat.le_refl _)
    rw [hr] at hr'
    cases hr'
    exact fun k hk => .inr (World.ownsRow.lt r1' k hk).1
  · subst hsize
    subst hby
    by_cases hroom : n + m ≤ cap
    · have hfit : n * i.size + news.length ≤ cur.size := by rw [hl, hcs, ← Nat.add_mul]; exact Nat.mul_le_mul_right _ hroom
      have hr' := run_append_room (P := P) w t ty e i ht hi g n cap cur hg a m c news hl hnews h1 hroom hfit
      rw [hr] at hr'
      cases hr'
      exact fun k hk => .inl hk
    · have holds : ∀ j u, xs[j]? = some u → w.cell? ((⟨g, 0, none⟩ : Addr).add j) = some u := World.ownsRow.cells hown' (g := g) rfl
      have hr' := run_append_grow (P := P) w t ty e i z ht hi hz ⟨g, 0, none⟩ n cap xs hown.1 holds a m c news hl hnews (by omega) (by omega) (growslice_fits (by omega) hbytes)
      rw [hr] at hr'
      cases hr'
      intro k hk
      right
      have : w.heap.size = k := by simpa [Value.ownBlock] using hk
      omega

/-- 'append(xs, x)' where x has just been laid in a block of its own: one element more; what was written is xs' own block, or new. -/
theorem wpList_append_one {P : Program} {w : World} {ops : Array Oper} {rest : List Oper} {o : Oper} {a : Act} {Q : Exit → Act → World → Prop} (hgd : o.guard = none) (s x : Operand) (t : TypeId)
    (ho : o.op = .call { callee := .builtin .append, args := #[s, x], argTypes := #[t, t] })
    (e : TypeId) (i : TypeInfo) (z : Value) (bytes : Nat) (ht : P.underlying t = some (.slice e)) (hi : P.info? e = some i) (hz : i.zero = some z) (hsize : i.size = 1) (hby : i.bytes = bytes) (hzs : z.cells.size = 1)
    (v : Value) (n : Nat) (F : Nat → Value) (hs : a.eval s = v) (hown : Own w e v n F) (g : Nat) (c : Nat) (hx : a.eval x = .slice (some ⟨g, 0, none⟩) 1 c) (hcell : w.cell? ⟨g, 0, none⟩ = some (F n)) (h1 : (F n).oneCell' = true)
    (h63 : n + 1 ≤ maxLen) (hbytes : (n + 1) * bytes ≤ 140737488355328)
    (h : ∀ v' w', Own w' e v' (n + 1) F → Kp (blks v) w w' → (∀ k ∈ blks v', k ∈ blks v ∨ w.heap.size ≤ k) → wpList P ops Q rest (a.put o.dst v') w') : wpList P ops Q (o :: rest) a w := by
  obtain ⟨v', w', hr, r1, r2, r3⟩ := run_append_fresh (P := P) w 0 t o.type e i z 1 bytes ht hi hz hsize hby hzs (by omega) v n _ hown ⟨g, 0, none⟩ 1 c [F n] rfl
    (by intro j u hj; match j, hj with | 0, hj => simp at hj; subst hj; simpa [Addr.add] using hcell) (by intro u hu; simp at hu; subst hu; exact h1) h63 hbytes (Nat.zero_le _)
  refine wpList_plain hgd fun K hK => ?_
  unfold Oper.wp
  simp only [execOp, ho, resolve, invoke, builtin, Sem.run_bind, Sem.run_pure, Result.andThen_ok, List.map_toArray, List.map_cons, List.map_nil, hs, hx, hr]
  refine hK _ _ (h v' w' ?_ ⟨r2.os, r2.tape, r2.output, r2.size, fun k hk hn => r2.block k hk (fun e => hn (by simp [blks, ← e]))⟩ ?_)
  · unfold Own
    rw [List.range_succ, List.map_append]
    exact r1
  · intro k hk
    rcases r3 k (by simpa [blks] using hk) with h | h
    · exact .inl (by simp [blks, h])
    · exact .inr h

end Go.Tocsin

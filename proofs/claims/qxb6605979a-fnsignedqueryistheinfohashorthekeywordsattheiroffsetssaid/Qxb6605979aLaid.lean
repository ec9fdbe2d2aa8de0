/-
  WHOLE ARRAYS AND STRUCTS: Search (type 39) built of parts that are not looked into; a whole variable made and filled; a whole variable read.
-/
import Derived.Test.Qxb6605979aSplitWalk
import Derived.Deep.WholeRow
namespace Go.Proofs.Qxb6605979a
open Go.RowKit Go.Tocsin Go.Wire

/-- The cells vs laid over cells from offset off on. -/
def lay (off : Nat) (vs cells : Array Value) : Array Value := vs.zipIdx.foldl (fun cs (c, j) => cs.setIfInBounds (off + j) c) cells

theorem lay_aux (off : Nat) : ∀ (l : List (Value × Nat)) (cells : Array Value), (∀ p ∈ l, p.1.oneCell' = true) → (∀ v ∈ cells, v.oneCell' = true) →
    let r := l.foldl (fun cs (c, j) => cs.setIfInBounds (off + j) c) cells
    r.size = cells.size ∧ (∀ v ∈ r, v.oneCell' = true) ∧ (∀ k, (∀ p ∈ l, off + p.2 ≠ k) → r[k]? = cells[k]?)
  | [], cells, _, h2 => ⟨rfl, h2, fun _ _ => rfl⟩
  | (c, j) :: l, cells, h1, h2 => by
    have h3 : ∀ v ∈ cells.setIfInBounds (off + j) c, v.oneCell' = true := by
      intro v hv
      obtain ⟨i, hi⟩ := Array.mem_iff_getElem?.1 hv
      rw [Array.getElem?_setIfInBounds] at hi
      split at hi
      · split at hi
        · cases hi; exact h1 (c, j) (by simp)
        · cases hi
      · exact h2 v (Array.mem_iff_getElem?.2 ⟨i, hi⟩)
    obtain ⟨r1, r2, r3⟩ := lay_aux off l (cells.setIfInBounds (off + j) c) (fun p hp => h1 p (by simp [hp])) h3
    refine ⟨by rw [List.foldl_cons]; simpa using r1, r2, fun k hk => ?_⟩
    rw [List.foldl_cons]
    have := r3 k (fun p hp => hk p (by simp [hp]))
    rw [this, Array.getElem?_setIfInBounds, if_neg (hk (c, j) (by simp))]

def Ones (a : Array Value) : Prop := ∀ v ∈ a, v.oneCell' = true

theorem lay_facts (off : Nat) (vs cells : Array Value) (h1 : Ones vs) (h2 : Ones cells) :
    (lay off vs cells).size = cells.size ∧ Ones (lay off vs cells) ∧ (∀ k, k < off ∨ off + vs.size ≤ k → (lay off vs cells)[k]? = cells[k]?) := by
  unfold lay
  rw [← Array.foldl_toList, Array.toList_zipIdx]
  have hm : ∀ p ∈ vs.toList.zipIdx, p.2 < vs.size ∧ p.1 ∈ vs := by
    intro p hp
    obtain ⟨x, i⟩ := p
    have := List.mem_zipIdx hp
    obtain ⟨h1, h2, h3⟩ := this
    refine ⟨by simpa using h2, ?_⟩
    rw [h3]
    simp
  obtain ⟨r1, r2, r3⟩ := lay_aux off vs.toList.zipIdx cells (fun p hp => h1 _ (hm p hp).2) h2
  exact ⟨r1, r2, fun k hk => r3 k (fun p hp e => by have := (hm p hp).1; omega)⟩

theorem lay_one (off : Nat) (v : Value) (cells : Array Value) (h : off < cells.size) : (lay off #[v] cells)[off]? = some v := by
  simp [lay, h]

theorem fill_step (place : Nat → Option (Nat × Nat)) (cells : Array Value) (i : Nat) (v : Value) (rest : List (Nat × Value)) {off : Nat} {size : Nat} (hp : place i = some (off, size)) (hs : v.cells.size = size) (hb : off + size ≤ cells.size) :
    Instr.fill place cells ((i, v) :: rest) = Instr.fill place (lay off v.cells cells) rest := by
  rw [Instr.fill, hp]
  simp only
  rw [if_neg (by simp [hs]; omega)]
  rfl

/-- A type whose zero value is a row of n cells. -/
theorem agg_zero {P : Program} {t : TypeId} {n : Nat} (h : (P.info? t).map (fun i => ((match i.zero with | some (.agg Z) => Z.size == n && Z.all (·.oneCell') | _ => false), i.size)) = some (true, n)) :
    ∃ Z, (P.info? t).map (fun i => (i.zero, i.size)) = some (some (.agg Z), n) ∧ Z.size = n ∧ Ones Z := by
  cases hq : P.info? t with
  | none => simp [hq] at h
  | some i =>
    simp [hq] at h
    obtain ⟨h1, h2⟩ := h
    split at h1
    · rename_i Z hz
      simp at h1
      refine ⟨Z, by simp [hz, h2], h1.1, fun v hv => ?_⟩
      obtain ⟨k, hk, rfl⟩ := Array.mem_iff_getElem.1 hv
      exact h1.2 k hk
    · cases h1

theorem zero39 : ∃ Z, (Try.prog.info? 39).map (fun i => (i.zero, i.size)) = some (some (.agg Z), 920) ∧ Z.size = 920 ∧ Ones Z := agg_zero (by kernel_rfl)
theorem zero29 : ∃ Z, (Try.prog.info? 29).map (fun i => (i.zero, i.size)) = some (some (.agg Z), 32) ∧ Z.size = 32 ∧ Ones Z := agg_zero (by kernel_rfl)
theorem zero31 : ∃ Z, (Try.prog.info? 31).map (fun i => (i.zero, i.size)) = some (some (.agg Z), 32) ∧ Z.size = 32 ∧ Ones Z := agg_zero (by kernel_rfl)

theorem ones1 {v : Value} (h : v.oneCell' = true) : Ones #[v] := by intro u hu; simp at hu; subst hu; exact h

theorem build33 (t : ByteArray) (v : Int) : Try.prog.built 33 [(0, .string t), (1, .int .i64 v)] = some #[.string t, .int .i64 v] := by kernel_rfl

theorem step39 (place : Nat → Option (Nat × Nat)) (cells : Array Value) (i : Nat) (v : Value) (rest : List (Nat × Value)) (off size : Nat) (hp : place i = some (off, size)) (hs : v.cells.size = size) (hb : off + size ≤ 920) (hc : cells.size = 920) (ho : Ones cells) (hv : Ones v.cells) :
    ∃ A, Instr.fill place cells ((i, v) :: rest) = Instr.fill place A rest ∧ A.size = 920 ∧ Ones A ∧ (∀ k, k < off ∨ off + size ≤ k → A[k]? = cells[k]?) ∧ (∀ u, v.cells = #[u] → A[off]? = some u) := by
  obtain ⟨h1, h2, h3⟩ := lay_facts off v.cells cells hv ho
  refine ⟨lay off v.cells cells, fill_step place cells i v rest hp hs (by omega), by omega, h2, fun k hk => h3 k (by omega), fun u hu => ?_⟩
  rw [hu] at hs ⊢
  exact lay_one off u cells (by simp at hs; omega)

/-- A Search of these parts. -/
theorem build39 (typ uuid : ByteArray) (ver qt : Int) (fh oob : Bool) (ka : Option Addr) (n kc : Nat) (ip : Option Addr) (R6 R8 R9 : Array Value) (h6 : R6.size = 391) (h8 : R8.size = 64) (h9 : R9.size = 64) (o6 : Ones R6) (o8 : Ones R8) (o9 : Ones R9) :
    ∃ A : Array Value, Try.prog.built 39 [(0, .agg #[.string typ, .int .i64 ver]), (1, .string uuid), (2, .bool fh), (3, .slice ka n kc), (4, .pointer ip), (5, .agg R6), (7, .bool oob), (8, .agg R8), (9, .agg R9), (10, .int .i64 qt)] = some A ∧
      A.size = 920 ∧ A[4]? = some (.slice ka n kc) ∧ A[5]? = some (.pointer ip) ∧ Ones A := by
  obtain ⟨Z, hZ, hZs, hZo⟩ := zero39
  have hpl : (match Try.prog.underlying 39 with | some (.struct fs) => fs.toList.mapM (fun (f : Field) => (Try.prog.info? f.type).map fun (i : TypeInfo) => (f.offset, i.size)) | _ => none) = some [(0, 2), (2, 1), (3, 1), (4, 1), (5, 1), (6, 391), (397, 393), (790, 1), (791, 64), (855, 64), (919, 1)] := by kernel_rfl
  have hb : ∀ parts, Try.prog.built 39 parts = Instr.fill ((#[(0, 2), (2, 1), (3, 1), (4, 1), (5, 1), (6, 391), (397, 393), (790, 1), (791, 64), (855, 64), (919, 1)] : Array (Nat × Nat))[·]?) Z parts := by
    intro parts
    unfold Program.built
    rw [Try.underlying39] at hpl ⊢
    cases hq : Try.prog.info? 39 with
    | none => rw [hq] at hZ; cases hZ
    | some i =>
      rw [hq] at hZ
      simp only [Option.map_some, Option.some.injEq, Prod.mk.injEq] at hZ
      simp only at hpl
      simp only [hZ.1, hpl]
      rfl
  rw [hb]
  generalize hplace : (fun (i : Nat) => (#[(0, 2), (2, 1), (3, 1), (4, 1), (5, 1), (6, 391), (397, 393), (790, 1), (791, 64), (855, 64), (919, 1)] : Array (Nat × Nat))[i]?) = place
  have q0 : place 0 = some (0, 2) := by rw [← hplace]; rfl
  have q1 : place 1 = some (2, 1) := by rw [← hplace]; rfl
  have q2 : place 2 = some (3, 1) := by rw [← hplace]; rfl
  have q3 : place 3 = some (4, 1) := by rw [← hplace]; rfl
  have q4 : place 4 = some (5, 1) := by rw [← hplace]; rfl
  have q5 : place 5 = some (6, 391) := by rw [← hplace]; rfl
  have q7 : place 7 = some (790, 1) := by rw [← hplace]; rfl
  have q8 : place 8 = some (791, 64) := by rw [← hplace]; rfl
  have q9 : place 9 = some (855, 64) := by rw [← hplace]; rfl
  have q10 : place 10 = some (919, 1) := by rw [← hplace]; rfl
  clear hplace hb hpl hZ
  obtain ⟨A0, e0, s0, o0, k0, _⟩ := step39 place Z 0 (.agg #[.string typ, .int .i64 ver]) _ 0 2 q0 rfl (by omega) hZs hZo (by intro u hu; simp [Value.cells] at hu; rcases hu with rfl | rfl <;> rfl)
  obtain ⟨A1, e1, s1, o1, k1, _⟩ := step39 place A0 1 (.string uuid) _ 2 1 q1 rfl (by omega) s0 o0 (ones1 rfl)
  obtain ⟨A2, e2, s2, o2, k2, _⟩ := step39 place A1 2 (.bool fh) _ 3 1 q2 rfl (by omega) s1 o1 (ones1 rfl)
  obtain ⟨A3, e3, s3, o3, k3, v3⟩ := step39 place A2 3 (.slice ka n kc) _ 4 1 q3 rfl (by omega) s2 o2 (ones1 rfl)
  obtain ⟨A4, e4, s4, o4, k4, v4⟩ := step39 place A3 4 (.pointer ip) _ 5 1 q4 rfl (by omega) s3 o3 (ones1 rfl)
  obtain ⟨A5, e5, s5, o5, k5, _⟩ := step39 place A4 5 (.agg R6) _ 6 391 q5 h6 (by omega) s4 o4 o6
  obtain ⟨A7, e7, s7, o7, k7, _⟩ := step39 place A5 7 (.bool oob) _ 790 1 q7 rfl (by omega) s5 o5 (ones1 rfl)
  obtain ⟨A8, e8, s8, o8', k8, _⟩ := step39 place A7 8 (.agg R8) _ 791 64 q8 h8 (by omega) s7 o7 o8
  obtain ⟨A9, e9, s9, o9', k9, _⟩ := step39 place A8 9 (.agg R9) _ 855 64 q9 h9 (by omega) s8 o8' o9
  obtain ⟨A10, e10, s10, o10, k10, _⟩ := step39 place A9 10 (.int .i64 qt) [] 919 1 q10 rfl (by omega) s9 o9' (ones1 rfl)
  refine ⟨A10, ?_, s10, ?_, ?_, o10⟩
  · rw [e0, e1, e2, e3, e4, e5, e7, e8, e9, e10]
    rfl
  · rw [k10 4 (by omega), k9 4 (by omega), k8 4 (by omega), k7 4 (by omega), k5 4 (by omega), k4 4 (by omega), v3 _ rfl]
  · rw [k10 5 (by omega), k9 5 (by omega), k8 5 (by omega), k7 5 (by omega), k5 5 (by omega), v4 _ rfl]

/-- A struct or an array built of parts, its cells under a name. -/
theorem wpList_built {P : Program} {w : World} {ops : Array Oper} {rest : List Oper} {o : Oper} {a : Act} {Q : Exit → Act → World → Prop} (hg : o.guard = none) (t : TypeId) (parts : Array (Nat × Operand)) (ho : o.op = .build t parts)
    (vs : List (Nat × Value)) (hv : (parts.map fun (i, x) => (i, a.eval x)).toList = vs) (A : Array Value) (hA : P.built t vs = some A) (h : wpList P ops Q rest (a.put o.dst (.agg A)) w) : wpList P ops Q (o :: rest) a w := by
  refine wpList_build hg t parts ho ?_ ?_
  · rw [hv, hA]; rfl
  · rw [hv, hA]; exact h

/-- 'new T' of a row, its zero cells under a name. -/
theorem wpList_alloc_row {P : Program} {w : World} {ops : Array Oper} {rest : List Oper} {o : Oper} {a : Act} {Q : Exit → Act → World → Prop} (hg : o.guard = none) (t : TypeId) (ho : o.op = .alloc t)
    (Z : Array Value) (n : Nat) (hz : (P.info? t).map (fun i => (i.zero, i.size)) = some (some (.agg Z), n)) (h : wpList P ops Q rest (a.put o.dst (.pointer (some ⟨w.heap.size, 0, none⟩))) (w.alloc (.cells Z t))) : wpList P ops Q (o :: rest) a w := by
  refine wpList_plain hg fun K hK => ?_
  have hz' := (zero_of_info hz).1
  unfold Oper.wp
  simp only [execOp, ho, Instr.alloc, Sem.run_bind, Sem.run_pure, Result.andThen_ok, hz', newVar, newRow]
  exact hK _ _ h

/-- A whole row stored into the variable that was made last. -/
theorem wpList_store_new {P : Program} {w : World} {ops : Array Oper} {rest : List Oper} {o : Oper} {a : Act} {Q : Exit → Act → World → Prop} (hgd : o.guard = none) (ty : TypeId) (x y : Operand) (ho : o.op = .store ty x y)
    (cells : Array Value) (hx : a.eval x = .pointer (some ⟨w.heap.size, 0, none⟩)) (hy : a.eval y = .agg cells) (old : Array Value) (hi : (P.info? ty).map (·.size) = some cells.size)
    (hold : old.size = cells.size) (h1 : Ones cells) (h : wpList P ops Q rest (a.put o.dst undef) (w.alloc (.cells cells ty))) : wpList P ops Q (o :: rest) a (w.alloc (.cells old ty)) := by
  refine wpList_store_row hgd ty x y ho w.heap.size cells hx hy ty old (heap_alloc_last w _) hi hold ?_ ?_
  · rw [Array.all_eq_true]
    intro i hi
    exact h1 _ (Array.getElem_mem hi)
  · rw [World.setRow_alloc_new]; exact h
end Go.Proofs.Qxb6605979a

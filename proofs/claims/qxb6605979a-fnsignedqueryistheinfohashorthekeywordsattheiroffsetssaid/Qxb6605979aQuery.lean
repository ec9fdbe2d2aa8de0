/-
  THE WALKS OF strings.Join's CALLER: signedQuery (12), ZZSignedQuery (8).
-/
import Derived.Test.Qxb6605979aParts
import Derived.Test.Qxb6605979aShelf
import Derived.Deep.MidRow
import Derived.Lib.ConvBytes
import Derived.Lib.SlBytesRow
import Derived.Laws.Tables
namespace Go.Proofs.Qxb6605979a
open Go.RowKit Go.Tocsin Go.Wire

/-- The keywords' bytes, joined by single spaces. -/
def joined (ss : Nat → ByteArray) (n : Nat) : List UInt8 := Lib.join ((List.range n).map fun i => toL (ss i)) [32]

theorem sum_range (ss : Nat → ByteArray) (n : Nat) : (((List.range n).map fun i => toL (ss i)).map List.length).sum = wb ss n := by
  induction n with
  | zero => rfl
  | succ n ih => simp [List.range_succ, List.map_append, List.sum_append] at ih ⊢; rw [ih, toL_length]; rfl

theorem joined_length (ss : Nat → ByteArray) (n : Nat) : (joined ss n).length = wb ss n + (n - 1) := by
  cases n with
  | zero => rfl
  | succ n =>
    unfold joined
    have e := sum_range ss (n + 1)
    have hx : (List.range (n + 1)).map (fun i => toL (ss i)) = toL (ss 0) :: ((List.range n).map fun i => toL (ss (i + 1))) := by
      rw [List.range_succ_eq_map]; simp
    rw [hx] at e ⊢
    rw [join_length, e]
    simp

theorem join_calls (ka : Option Addr) (n kc : Nat) (ss : Nat → ByteArray) (w : World) (hkc : n ≤ kc) (hb : n + wb ss n ≤ 1048576) (hc : StrAt w ka n ss) :
    Calls Try.prog 13 #[.slice ka n kc, .string ⟨#[32]⟩] w fun e w' => e = .returned (.string ⟨(joined ss n).toArray⟩) ∧ Kp [] w w' := by
  by_cases h0 : n = 0
  · subst h0
    refine (Try.strings_Join_none ka kc ⟨#[32]⟩ w).mono ?_
    rintro e w' ⟨rfl, rfl⟩
    exact ⟨rfl, Kp.refl _ _⟩
  · obtain ⟨b, off, rfl, hcell⟩ := hc (by omega)
    have hlen := joined_length ss n
    have hb0 : b < w.heap.size := World.block_lt_of_cell? _ _ (hcell 0 (by omega))
    have ej : Lib.join (((List.range n).map ss).map (·.data.toList)) (⟨#[32]⟩ : ByteArray).data.toList = joined ss n := by
      unfold joined
      rw [List.map_map]
      rfl
    have := Try.strings_Join b off kc ((List.range n).map ss) ⟨#[32]⟩ w (fun j x hj => by
      have hjn : j < n := by have := (List.getElem?_eq_some_iff.1 hj).1; simpa using this
      simp [hjn] at hj
      rw [hcell j hjn, hj]) hb0 (by simp; omega) (by simpa using hkc) (by rw [ej]; omega)
    rw [ej] at this
    simp only [List.length_map, List.length_range] at this
    refine this.mono ?_
    rintro e w' ⟨rfl, hbl⟩
    exact ⟨rfl, Kp.of_below hbl _⟩

/-- What a call that answers these bytes says. -/
def Answers (s : ByteArray) (w : World) (e : Ending) (w' : World) : Prop :=
  ∃ (g c : Nat), e = .returned (.slice (some ⟨g, 0, none⟩) s.size c) ∧ w.heap.size ≤ g ∧ s.size ≤ c ∧ Hid (Lib.Bytes w' g 0 s) ∧ Hid (Kp [] w w')

set_option maxHeartbeats 1600000 in
set_option maxRecDepth 100000 in
theorem signedQuery_calls (A : Array Value) (ka : Option Addr) (n kc : Nat) (ss : Nat → ByteArray) (w : World) (h4 : A[4]? = some (.slice ka n kc)) (h5 : A[5]? = some (.pointer none)) (hkc : n ≤ kc) (hb : n + wb ss n ≤ 1048576) (hc : StrAt w ka n ss) :
    Calls Try.prog 12 #[.agg A] w fun e w' => Answers ⟨(joined ss n).toArray⟩ w e w' := by
  have HJ : Hid (∀ o, Calls Try.prog 13 #[.slice ka n kc, .string ⟨#[32]⟩] (w.alloc o) fun e w' => e = .returned (.string ⟨(joined ss n).toArray⟩) ∧ Kp [] (w.alloc o) w') := fun o => by
    refine join_calls ka n kc ss (w.alloc o) hkc hb (fun h => ?_)
    obtain ⟨b, off, e, hcell⟩ := hc h
    exact ⟨b, off, e, fun i hi => ((Kp.refl [] w).alloc o).cell' (hcell i hi) (by simp)⟩
  obtain ⟨J, hJ⟩ : ∃ J : ByteArray, J = ⟨(joined ss n).toArray⟩ := ⟨_, rfl⟩
  rw [← hJ] at HJ ⊢
  clear hJ hc hb
  have hcv := fun w => Lib.run_convert_string_bytes (P := Try.prog) w 9 40 5 J Try.underlying9 Try.underlying40 Try.underlying5
  go_enter Try.func12, Try.ntmps12
  go_wp2_with (go_at_call 13; refine (HJ.out _).mono ?_; rintro e w1 ⟨rfl, k1⟩)
  go_ret
  have hs := k1.size
  simp at hs
  refine ⟨w1.heap.size, _, rfl, by omega, grownCap_ge _ _ _ _, fun i hi => ?_, ?_⟩
  · rw [Nat.zero_add, Lib.bytesWorld_cell w1 5 J i hi]
    simp [List.getD_eq_getElem?_getD, hi]
    rfl
  · have hw : Kp [] w1 (Lib.bytesWorld w1 5 J) := ⟨rfl, rfl, rfl, by rw [Lib.bytesWorld_size]; omega, fun k hk _ => Lib.bytesWorld_at_old w1 5 J k hk⟩
    exact (((Kp.refl [] w).alloc _).trans k1 (by simp)).trans hw (by simp)

set_option maxHeartbeats 1600000 in
set_option maxRecDepth 100000 in
theorem ZZSignedQuery_calls (A : Array Value) (s : ByteArray) (w : World) (hA : A.size = 920) (hc : Calls Try.prog 12 #[.agg A] (w.alloc (.cells A 39)) fun e w' => Answers s (w.alloc (.cells A 39)) e w') :
    Calls Try.prog 8 #[.agg A] w fun e w' => Answers s w e w' := by
  have HC := hid hc
  clear hc
  have hra : (w.alloc (.cells A 39)).rangeAt w.heap.size 0 A.toList := fun j v hj => by
    rw [Nat.zero_add]
    simp at hj
    simp [hj]
  have hin : (Try.prog.info? 39).map (·.size) = some A.toList.length := by rw [Array.length_toList, hA]; kernel_rfl
  have HR := hid hra
  have HI := hid hin
  clear hra hin hA
  go_enter Try.func8, Try.ntmps8
  go_wp2_with (first
   | (refine wpList_load_mid rfl 39 (.tmp 1) rfl w.heap.size 0 rfl A.toList _ HR.out Try.underlying39 rfl HI.out ?_; rw [Array.toArray_toList])
   | (go_at_call 12; refine HC.out.mono ?_; rintro e w1 ⟨g, c, rfl, hg, hsc, hb, hk⟩))
  go_ret
  refine ⟨g, c, rfl, by simp at hg; omega, hsc, hb, ((Kp.refl [] w).alloc _).trans hk.out (by simp)⟩

theorem build_said (ka : Option Addr) (n kc : Nat) : ∃ A : Array Value, Try.prog.built 39 [(3, .slice ka n kc)] = some A ∧ A.size = 920 ∧ A[4]? = some (.slice ka n kc) ∧ A[5]? = some (.pointer none) := by
  have h : (Try.prog.built 39 [(3, .slice ka n kc)]).map (fun A => (A.size, A[4]?, A[5]?)) = some (920, some (.slice ka n kc), some (.pointer none)) := by kernel_rfl
  obtain ⟨A, hA, he⟩ := Option.map_eq_some_iff.1 h
  simp only [Prod.mk.injEq] at he
  exact ⟨A, hA, he.1, he.2.1, he.2.2⟩

/-- A struct built of one part, its cells under a name. -/
theorem wpList_built1 {P : Program} {w : World} {ops : Array Oper} {rest : List Oper} {o : Oper} {a : Act} {Q : Exit → Act → World → Prop} (hg : o.guard = none) (t : TypeId) (i : Nat) (x : Operand) (ho : o.op = .build t #[(i, x)])
    (v : Value) (hv : a.eval x = v) (A : Array Value) (hA : P.built t [(i, v)] = some A) (h : wpList P ops Q rest (a.put o.dst (.agg A)) w) : wpList P ops Q (o :: rest) a w := by
  subst hv
  have e : (#[(i, x)].map fun (i, x) => (i, a.eval x)).toList = [(i, a.eval x)] := by simp
  refine wpList_build hg t #[(i, x)] ho ?_ ?_
  · rw [e, hA]; rfl
  · rw [e, hA]; exact h
end Go.Proofs.Qxb6605979a

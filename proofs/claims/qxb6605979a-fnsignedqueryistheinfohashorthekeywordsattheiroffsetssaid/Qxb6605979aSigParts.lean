/-
  PARTS OF FnSignedQueryIsTheInfohashOrTheKeywordsAtTheirOffsets (3): where a joined text's bytes lie; zzBytes (5); signedQuery with an infohash.
-/
import Derived.Test.Qxb6605979aLaid
namespace Go.Proofs.Qxb6605979a
open Go.RowKit Go.Tocsin Go.Wire

theorem join_snoc : ∀ (x : List UInt8) (r : List (List UInt8)) (y : List UInt8), Lib.join ((x :: r) ++ [y]) [32] = Lib.join (x :: r) [32] ++ 32 :: y
  | x, [], y => by
    show Lib.join [x, y] [32] = _
    rw [Go.Wire.join_cons, Lib.join_one, Lib.join_one]
    simp
  | x, z :: r, y => by
    have := join_snoc z r y
    rw [List.cons_append] at this
    rw [List.cons_append, List.cons_append, Go.Wire.join_cons, this, Go.Wire.join_cons]
    simp

theorem joined_one (ss : Nat → ByteArray) : joined ss 1 = toL (ss 0) := by
  simp [joined, Lib.join_one]
theorem joined_two (ss : Nat → ByteArray) (m : Nat) : joined ss (m + 2) = joined ss (m + 1) ++ 32 :: toL (ss (m + 1)) := by
  unfold joined
  rw [List.range_succ, List.map_append]
  cases h : (List.range (m + 1)).map fun i => toL (ss i) with
  | nil => simp at h
  | cons x r => exact join_snoc x r _

theorem joined_word (ss : Nat → ByteArray) : ∀ (n k j : Nat), k < n → j < (ss k).size → (joined ss n)[wb ss k + k + j]? = (toL (ss k))[j]?
  | 0, k, j, h, _ => by omega
  | 1, k, j, h, _ => by
    obtain rfl : k = 0 := by omega
    rw [joined_one]
    simp [wb]
  | m + 2, k, j, h, hj => by
    rw [joined_two]
    have hl := joined_length ss (m + 1)
    have h1 : wb ss (k + 1) = wb ss k + (ss k).size := rfl
    by_cases hk : k < m + 1
    · have h2 := wb_mono ss (show k + 1 ≤ m + 1 by omega)
      rw [List.getElem?_append_left (by omega)]
      exact joined_word ss (m + 1) k j hk hj
    · obtain rfl : k = m + 1 := by omega
      rw [List.getElem?_append_right (by omega), hl]
      rw [show wb ss (m + 1) + (m + 1) + j - (wb ss (m + 1) + (m + 1 - 1)) = j + 1 by omega]
      simp

theorem joined_space (ss : Nat → ByteArray) : ∀ (n k : Nat), k + 1 < n → (joined ss n)[wb ss (k + 1) + k]? = some 32
  | 0, k, h => by omega
  | 1, k, h => by omega
  | m + 2, k, h => by
    rw [joined_two]
    have hl := joined_length ss (m + 1)
    by_cases hk : k + 1 < m + 1
    · have h2 := wb_mono ss (show k + 1 ≤ m + 1 by omega)
      rw [List.getElem?_append_left (by omega)]
      exact joined_space ss (m + 1) k hk
    · obtain rfl : k = m := by omega
      rw [List.getElem?_append_right (by omega), hl]
      rw [show wb ss (k + 1) + k - (wb ss (k + 1) + (k + 1 - 1)) = 0 by omega]
      simp

set_option maxHeartbeats 1600000 in
set_option maxRecDepth 100000 in
theorem zzBytes5 (typ uuid : ByteArray) (ver qt : Int) (fh oob : Bool) (ip : Option Addr) (R6 R8 R9 : Array Value) (a : Option Addr) (n c : Nat) (ss : Nat → ByteArray) (w : World) (hn : n ≤ maxLen) (hc : StrAt w a n ss) :
    Calls Try.prog 5 #[.string typ, .int .i64 ver, .string uuid, .bool fh, .slice a n c, .pointer ip, .agg R6, .bool oob, .agg R8, .agg R9, .int .i64 qt] w fun e w' => SaysB (typ.size + uuid.size + n + wb ss n ≤ 1048576) e ∧ Kp [] w w' := by
  unfold maxLen at hn
  obtain ⟨w0, hw0⟩ : ∃ w0, w0 = ((w.alloc (.cells R6 24)).alloc (.cells R8 25)).alloc (.cells R9 25) := ⟨_, rfl⟩
  have HK0 : Hid (Kp [] w w0) := by rw [hw0]; exact (((Kp.refl [] w).alloc _).alloc _).alloc _
  have HS := hid (hc.kp HK0.out)
  clear hc
  have HW0 := hid hw0
  clear hw0
  by_cases g1 : (1048576 : Int) < (typ.size : Int)
  · go_enter Try.func5, Try.ntmps5
    go_wp2
    go_ret
    rw [← HW0.out]
    exact ⟨SaysB.no _, HK0.out⟩
  by_cases g2 : (1048576 : Int) < (uuid.size : Int)
  · go_enter Try.func5, Try.ntmps5
    go_wp2
    go_ret
    rw [← HW0.out]
    exact ⟨SaysB.no _, HK0.out⟩
  by_cases g3 : (1048576 : Int) < (typ.size : Int) + (uuid.size : Int)
  · go_enter Try.func5, Try.ntmps5
    go_wp2
    go_ret
    rw [← HW0.out]
    exact ⟨SaysB.no _, HK0.out⟩
  by_cases g4 : (1048576 : Int) < (n : Int)
  · go_enter Try.func5, Try.ntmps5
    go_wp2
    go_ret
    rw [← HW0.out]
    exact ⟨SaysB.no _, HK0.out⟩
  by_cases g5 : (1048576 : Int) < (typ.size : Int) + (uuid.size : Int) + (n : Int)
  · go_enter Try.func5, Try.ntmps5
    go_wp2
    go_ret
    rw [← HW0.out]
    exact ⟨SaysB.no _, HK0.out⟩
  have ht : typ.size + uuid.size + n ≤ 1048576 := by omega
  by_cases h0 : n = 0
  · subst h0
    go_enter Try.func5, Try.ntmps5
    go_wp2
    rw [← HW0.out]
    go_loop [23, 24] (fun t i => t = .int .i64 ((typ.size : Int) + (uuid.size : Int)) ∧ i = .int .i64 0) (fun _ _ => 0)
    case atStart => exact ⟨by go_num, rfl⟩
    case round =>
      obtain ⟨rfl, rfl⟩ := hrel
      go_wp2
      go_ret
      exact ⟨SaysB.yes (by simp [wb]; omega), HK0.out⟩
  obtain ⟨b, off, rfl, hcell⟩ := HS.out (by omega)
  have HC := hid hcell
  clear hcell
  go_enter Try.func5, Try.ntmps5
  go_wp2
  rw [← HW0.out]
  go_loop [23, 24] (fun t i => ∃ k : Nat, k ≤ n ∧ i = .int .i64 k ∧ t = .int .i64 ((typ.size + uuid.size + n + wb ss k : Nat) : Int) ∧ typ.size + uuid.size + n + wb ss k ≤ 1048576) (fun _ i => n - (intOf i).toNat)
  case atStart => exact ⟨0, by omega, rfl, by go_num, by simp [wb]; omega⟩
  case round =>
    obtain ⟨k, hk, rfl, rfl, hkb⟩ := hrel
    by_cases hlt : k < n
    · have hck := HC.out k hlt
      by_cases g1 : (1048576 : Int) < ((ss k).size : Int)
      · go_wp2
        go_ret
        exact ⟨SaysB.no _, HK0.out⟩
      by_cases g2 : (1048576 : Int) < (typ.size : Int) + (uuid.size : Int) + (n : Int) + (wb ss k : Int) + ((ss k).size : Int)
      · go_wp2
        go_ret
        exact ⟨SaysB.no _, HK0.out⟩
      · have h2 : wb ss (k + 1) = wb ss k + (ss k).size := rfl
        have HE := hid h2
        clear h2
        go_wp2
        go_round
        case rel => exact ⟨k + 1, by omega, by go_num, by rw [HE.out]; go_num, by rw [HE.out]; omega⟩
        case measure => simp [intOf]; omega
    · obtain rfl : n = k := by omega
      have HK := hid hkb
      clear hkb
      go_wp2
      go_ret
      exact ⟨SaysB.yes HK.out, HK0.out⟩

/-- The query of a search with an infohash: the bytes behind its pointer. -/
def Points (g : Nat) (w : World) (e : Ending) (w' : World) : Prop := e = .returned (.slice (some ⟨g, 0, none⟩) 32 32) ∧ Hid (Kp [] w w')

set_option maxHeartbeats 1600000 in
set_option maxRecDepth 100000 in
theorem signedQuery_ih (A : Array Value) (g : Nat) (w : World) (h5 : A[5]? = some (.pointer (some ⟨g, 0, none⟩))) :
    Calls Try.prog 12 #[.agg A] w fun e w' => Points g w e w' := by
  go_enter Try.func12, Try.ntmps12
  go_wp2_with (fail)
  go_ret
  exact ⟨rfl, (Kp.refl [] w).alloc _⟩

set_option maxHeartbeats 1600000 in
set_option maxRecDepth 100000 in
theorem ZZSignedQuery_ih (A : Array Value) (g : Nat) (w : World) (hA : A.size = 920) (hc : Calls Try.prog 12 #[.agg A] (w.alloc (.cells A 39)) fun e w' => Points g (w.alloc (.cells A 39)) e w') :
    Calls Try.prog 8 #[.agg A] w fun e w' => Points g w e w' := by
  have HC := hid hc
  clear hc
  have hra : (w.alloc (.cells A 39)).rangeAt w.heap.size 0 A.toList := fun j v hj => by
    rw [Nat.zero_add]
    simp at hj
    simp [hj]
  have hin : (Try.prog.info? 39).map (·.size) = some A.toList.length := by rw [Array.length_toList, hA]; kernel_rfl
  have HR := hid hra
  have HI := hid hin
  clear hra hin hA
  go_enter Try.func8, Try.ntmps8
  go_wp2_with (first
   | (refine wpList_load_mid rfl 39 (.tmp 1) rfl w.heap.size 0 rfl A.toList _ HR.out Try.underlying39 rfl HI.out ?_; rw [Array.toArray_toList])
   | (go_at_call 12; refine HC.out.mono ?_; rintro e w1 ⟨rfl, hk⟩))
  go_ret
  exact ⟨rfl, ((Kp.refl [] w).alloc _).trans hk.out (by simp)⟩
theorem range_new {w0 : World} {b : Nat} {C : Array Value} {t : TypeId} (h : w0.heap[b]? = some (.cells C t)) : ∀ w', Kp [] w0 w' → w'.rangeAt b 0 C.toList := by
  intro w' hk j v hj
  rw [Nat.zero_add]
  simp at hj
  refine hk.cell' (p := ⟨b, j, none⟩) ?_ (by simp)
  simp [World.cell?, h, hj]
/-- A struct built of a list of parts. -/
theorem wpList_builtL {P : Program} {w : World} {ops : Array Oper} {rest : List Oper} {o : Oper} {a : Act} {Q : Exit → Act → World → Prop} (hg : o.guard = none) (t : TypeId) (ps : List (Nat × Operand)) (ho : o.op = .build t ps.toArray)
    (vs : List (Nat × Value)) (hv : ps.map (fun p => (p.1, a.eval p.2)) = vs) (A : Array Value) (hA : P.built t vs = some A) (h : wpList P ops Q rest (a.put o.dst (.agg A)) w) : wpList P ops Q (o :: rest) a w :=
  wpList_built hg t ps.toArray ho vs (by rw [← hv]; simp) A hA h
theorem range_last (w : World) (C : Array Value) (t : TypeId) : (w.alloc (.cells C t)).rangeAt w.heap.size 0 C.toList := range_new (heap_alloc_last w _) _ (Kp.refl _ _)
end Go.Proofs.Qxb6605979a

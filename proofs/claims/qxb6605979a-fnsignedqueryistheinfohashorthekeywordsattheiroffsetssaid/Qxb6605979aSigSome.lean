/-
  THE WALK OF FnSignedQueryIsTheInfohashOrTheKeywordsAtTheirOffsets (3) where an infohash is given.
-/
import Derived.Test.Qxb6605979aSigNil
namespace Go.Proofs.Qxb6605979a
open Go.RowKit Go.Tocsin Go.Wire

theorem info29 {n : Nat} (h : n = 32) : (Try.prog.info? 29).map (·.size) = some n := by subst h; kernel_rfl
theorem info31 {n : Nat} (h : n = 32) : (Try.prog.info? 31).map (·.size) = some n := by subst h; kernel_rfl
theorem range_kp {w w' : World} {b o : Nat} {cs : List Value} (h : w.rangeAt b o cs) (k : Kp [] w w') : w'.rangeAt b o cs := fun j v hj => k.cell' (h j v hj) (by simp)

/-- A new variable, filled at once with a whole row. -/
theorem wpList_new_row {P : Program} {w : World} {ops : Array Oper} {rest : List Oper} {o1 o2 : Oper} {a : Act} {Q : Exit → Act → World → Prop} (hg1 : o1.guard = none) (hg2 : o2.guard = none) (ty : TypeId) (ho1 : o1.op = .alloc ty) (x y : Operand) (ho2 : o2.op = .store ty x y)
    (Z : Array Value) (n : Nat) (hz : (P.info? ty).map (fun i => (i.zero, i.size)) = some (some (.agg Z), n)) (cells : Array Value) (g : Nat) (hgs : w.heap.size = g)
    (hx : (a.put o1.dst (.pointer (some ⟨g, 0, none⟩))).eval x = .pointer (some ⟨g, 0, none⟩)) (hy : (a.put o1.dst (.pointer (some ⟨g, 0, none⟩))).eval y = .agg cells) (hi : (P.info? ty).map (·.size) = some cells.size)
    (hold : Z.size = cells.size) (h1 : Ones cells) (h : wpList P ops Q rest ((a.put o1.dst (.pointer (some ⟨g, 0, none⟩))).put o2.dst undef) (w.alloc (.cells cells ty))) : wpList P ops Q (o1 :: o2 :: rest) a w := by
  subst hgs
  refine wpList_alloc_row hg1 ty ho1 Z n hz ?_
  exact wpList_store_new hg2 ty x y ho2 cells hx hy Z hi hold h1 h

set_option maxHeartbeats 3200000 in
set_option maxRecDepth 100000 in
theorem sig_some (w : World) (typ uuid : ByteArray) (ver qt : Int) (fh oob : Bool) (R6 R8 R9 : Array Value) (h6 : R6.size = 391) (h8 : R8.size = 64) (h9 : R9.size = 64) (o6 : Ones R6) (o8 : Ones R8) (o9 : Ones R9)
    (ib io : Nat) (x : Nat → Int)
    (hih : w.rangeAt ib io ((List.range 32).map fun i => .int .u8 (x i))) (a : Option Addr) (n c : Nat) (ss : Nat → ByteArray) (hn : n ≤ maxLen) (ha : a = none → n = 0 ∧ c = 0) (hc : StrAt w a n ss) :
    Calls Try.prog 3 #[.string typ, .int .i64 ver, .string uuid, .bool fh, .slice a n c, .pointer (some ⟨ib, io, none⟩), .agg R6, .bool oob, .agg R8, .agg R9, .int .i64 qt] w fun e w' => e = .returned (.bool true) ∧ Kp [] w w' := by
  have HR6 := hid (range_new (boxed6 w R6 R8 R9))
  have HR8 := hid (range_new (boxed8 w R6 R8 R9))
  have HR9 := hid (range_new (boxed9 w R6 R8 R9))
  have HI6 := hid (info24 (show R6.toList.length = 391 by simpa using h6))
  have HI8 := hid (info25 (show R8.toList.length = 64 by simpa using h8))
  have HI9 := hid (info25 (show R9.toList.length = 64 by simpa using h9))
  have HKB := hid (boxed_kp w R6 R8 R9)
  have HZ := hid (zzBytes5 typ uuid ver qt fh oob (some ⟨ib, io, none⟩) R6 R8 R9 a n c ss (boxed w R6 R8 R9) hn (hc.kp HKB.out))
  have HC := hid (hc.kp HKB.out)
  have HIH := hid (fun w' (h : Kp [] w w') => range_kp hih h)
  have HA := hid ha
  have HB39 := hid (fun ka kc ip => build39 typ uuid ver qt fh oob ka n kc ip R6 R8 R9 h6 h8 h9 o6 o8 o9)
  clear hc ha hih h6 h8 h9 o6 o8 o9
  have HBx : Hid (((w.alloc (.cells R6 24)).alloc (.cells R8 25)).alloc (.cells R9 25) = boxed w R6 R8 R9) := rfl
  obtain ⟨C, hC⟩ : ∃ C, C = (List.range 32).map fun i => Value.int .u8 (x i) := ⟨_, rfl⟩
  have hCl : C.length = 32 := by rw [hC]; simp
  have hCs : C.toArray.size = 32 := by rw [List.size_toArray]; exact hCl
  have HCO : Hid (Ones C.toArray) := by
    show Ones C.toArray
    rw [hC]
    intro v hv
    simp at hv
    obtain ⟨_, _, rfl⟩ := hv
    rfl
  have HCG : Hid (∀ i, i < 32 → C.toArray[i]? = some (.int .u8 (x i))) := by
    show ∀ i, i < 32 → C.toArray[i]? = some (.int .u8 (x i))
    rw [hC]
    intro i hi
    simp [hi]
  rw [← hC] at HIH
  have HI29 := hid (info29 hCl)
  have HI29' := hid (info29 hCs)
  have HI31' := hid (info31 hCs)
  clear hC
  obtain ⟨Z, hz, hZs, _⟩ := zero39
  obtain ⟨Y, hy, hYs, _⟩ := zero29
  obtain ⟨X, hx, hXs, _⟩ := zero31
  have HZ39 := hid (And.intro hz hZs)
  have HZ29 := hid (And.intro hy (hYs.trans hCs.symm))
  have HZ31 := hid (And.intro hx (hXs.trans hCs.symm))
  clear hz hZs hy hYs hx hXs hCl hCs
  go_enter Try.func3, Try.ntmps3
  go_wp2_with (first
    | (rw [HBx.out])
    | (show wpList _ _ _ (Oper.mk _ (Op.load 24 (.tmp 17)) _ _ _ _ :: _) _ _; refine wpList_load_mid rfl 24 (.tmp 17) rfl w.heap.size 0 rfl R6.toList _ (HR6.out _ (Kp.refl _ _)) Try.underlying24 rfl HI6.out ?_; rw [Array.toArray_toList])
    | (show wpList _ _ _ (Oper.mk _ (Op.load 25 (.tmp 19)) _ _ _ _ :: _) _ _; refine wpList_load_mid rfl 25 (.tmp 19) rfl (w.heap.size + 1) 0 rfl R8.toList _ (HR8.out _ (Kp.refl _ _)) Try.underlying25 rfl HI8.out ?_; rw [Array.toArray_toList])
    | (show wpList _ _ _ (Oper.mk _ (Op.load 25 (.tmp 20)) _ _ _ _ :: _) _ _; refine wpList_load_mid rfl 25 (.tmp 20) rfl (w.heap.size + 2) 0 rfl R9.toList _ (HR9.out _ (Kp.refl _ _)) Try.underlying25 rfl HI9.out ?_; rw [Array.toArray_toList])
    | (go_at_call 5; refine HZ.out.mono ?_; rintro e w1 ⟨⟨β, rfl, hβ⟩, hk1⟩; have HK1 := hid hk1; clear hk1; cases β; rotate_left; have hok := hβ rfl; clear hβ; rotate_left; clear hβ; (iterate 1 go_wp2_with fail); go_ret; exact ⟨rfl, HKB.out.trans HK1.out (by simp)⟩)
    | (go_at_call 6; refine (wordBytes_calls a n c ss _ (by omega) (by omega) (HC.out.kp HK1.out)).mono ?_; rintro e w' ⟨rfl, rfl⟩))
  all_goals first | (go_ret; exact ⟨rfl, HKB.out.trans HK1.out (by simp)⟩) | skip
  refine (clone_calls a n c ss _ (by omega) HA.out (HC.out.kp HK1.out)).mono ?_
  rintro e w2 ⟨ka, kc, rfl, hkc, hS, hK2⟩
  have HKC := hid (HK1.out.trans hK2 (by simp))
  clear hS hK2
  obtain ⟨A, hbd, hA, h4, h5, hO⟩ := HB39.out ka kc (some ⟨w2.heap.size + 1, 0, none⟩)
  have HBD := hid hbd
  have HBF := hid (And.intro hA h5)
  have HO := hid hO
  clear hbd hA h4 h5 hO
  have HKC4 := hid ((HKC.out.alloc (.cells C.toArray 29)).alloc (.cells C.toArray 31))
  have HI2 := hid (HIH.out w2 (HKB.out.trans HKC.out (by simp)))
  have HRL : Hid ((((w2.alloc (.cells C.toArray 29)).alloc (.cells C.toArray 31)).alloc (.cells A 39)).rangeAt (w2.heap.size + 2) 0 A.toList) := by
    have h := range_last ((w2.alloc (.cells C.toArray 29)).alloc (.cells C.toArray 31)) A 39
    rw [show ((w2.alloc (.cells C.toArray 29)).alloc (.cells C.toArray 31)).heap.size = w2.heap.size + 2 by simp] at h
    exact h
  go_wp2_with (first
    | (show wpList _ _ _ (Oper.mk _ (Op.load 29 (.tmp 67)) _ _ _ _ :: _) _ _; refine wpList_load_mid rfl 29 (.tmp 67) rfl ib io rfl C _ HI2.out Try.underlying29 rfl HI29.out ?_)
    | (show wpList _ _ _ (Oper.mk _ (Op.load 29 (.tmp 72)) _ _ _ _ :: _) _ _; refine wpList_load_mid rfl 29 (.tmp 72) rfl w2.heap.size 0 rfl C _ (range_last w2 C.toArray 29) Try.underlying29 rfl HI29.out ?_)
    | (show wpList _ _ _ (Oper.mk _ (Op.alloc 29) _ _ _ _ :: _) _ _; refine wpList_new_row rfl rfl 29 rfl (.tmp 23) (.tmp 68) rfl Y 32 HZ29.out.1 C.toArray w2.heap.size rfl rfl rfl HI29'.out HZ29.out.2 HCO.out ?_)
    | (show wpList _ _ _ (Oper.mk _ (Op.alloc 31) _ _ _ _ :: _) _ _; refine wpList_new_row rfl rfl 31 rfl (.tmp 25) (.tmp 73) rfl X 32 HZ31.out.1 C.toArray (w2.heap.size + 1) (by simp) rfl rfl HI31'.out HZ31.out.2 HCO.out ?_)
    | (show wpList _ _ _ (Oper.mk _ (Op.load 24 (.tmp 17)) _ _ _ _ :: _) _ _; refine wpList_load_mid rfl 24 (.tmp 17) rfl w.heap.size 0 rfl R6.toList _ (HR6.out _ HKC4.out) Try.underlying24 rfl HI6.out ?_; rw [Array.toArray_toList])
    | (show wpList _ _ _ (Oper.mk _ (Op.load 25 (.tmp 19)) _ _ _ _ :: _) _ _; refine wpList_load_mid rfl 25 (.tmp 19) rfl (w.heap.size + 1) 0 rfl R8.toList _ (HR8.out _ HKC4.out) Try.underlying25 rfl HI8.out ?_; rw [Array.toArray_toList])
    | (show wpList _ _ _ (Oper.mk _ (Op.load 25 (.tmp 20)) _ _ _ _ :: _) _ _; refine wpList_load_mid rfl 25 (.tmp 20) rfl (w.heap.size + 2) 0 rfl R9.toList _ (HR9.out _ HKC4.out) Try.underlying25 rfl HI9.out ?_; rw [Array.toArray_toList])
    | (show wpList _ _ _ (Oper.mk _ (Op.build 33 _) _ _ _ _ :: _) _ _; refine wpList_builtL rfl 33 _ rfl _ rfl _ (build33 typ ver) ?_)
    | (show wpList _ _ _ (Oper.mk _ (Op.build 39 _) _ _ _ _ :: _) _ _; refine wpList_builtL rfl 39 _ rfl _ rfl A HBD.out ?_)
    | (show wpList _ _ _ (Oper.mk _ (Op.alloc 39) _ _ _ _ :: _) _ _; refine wpList_new_row rfl rfl 39 rfl (.tmp 26) (.tmp 86) rfl Z 920 HZ39.out.1 A (w2.heap.size + 2) (by simp) rfl rfl (info39 HBF.out.1) (by rw [HZ39.out.2, HBF.out.1]) HO.out ?_)
    | (show wpList _ _ _ (Oper.mk _ (Op.load 39 _) _ _ _ _ :: _) _ _; refine wpList_load_mid rfl 39 (.tmp 26) rfl (w2.heap.size + 2) 0 rfl A.toList _ HRL.out Try.underlying39 rfl (info39 (by rw [Array.length_toList]; exact HBF.out.1)) ?_; rw [Array.toArray_toList]))
  have HB1 : Hid ((((w2.alloc (.cells C.toArray 29)).alloc (.cells C.toArray 31)).alloc (.cells A 39)).heap[w2.heap.size]? = some (.cells C.toArray 29)) := by
    show _ = _
    rw [Below.heap_alloc _ _ _ (by simp; omega), Below.heap_alloc _ _ _ (by simp)]
    exact heap_alloc_last w2 _
  have HB2 : Hid ((((w2.alloc (.cells C.toArray 29)).alloc (.cells C.toArray 31)).alloc (.cells A 39)).heap[w2.heap.size + 1]? = some (.cells C.toArray 31)) := by
    show _ = _
    rw [Below.heap_alloc _ _ _ (by simp)]
    have h := heap_alloc_last (w2.alloc (.cells C.toArray 29)) (.cells C.toArray 31)
    rwa [show (w2.alloc (.cells C.toArray 29)).heap.size = w2.heap.size + 1 by simp] at h
  refine (ZZSignedQuery_ih A (w2.heap.size + 1) _ HBF.out.1 (signedQuery_ih A (w2.heap.size + 1) _ HBF.out.2)).mono ?_
  rintro e w5 ⟨rfl, hK5⟩
  have HKE := hid (((HKB.out.trans HKC4.out (by simp)).alloc (.cells A 39)).trans hK5.out (by simp))
  have HH1 : Hid (∀ i, i < 32 → w5.cell? ⟨w2.heap.size, i, none⟩ = some (.int .u8 (x i))) := fun i hi => by
    have h := range_new HB1.out w5 hK5.out i (.int .u8 (x i)) (by simpa using HCG.out i hi)
    rwa [Nat.zero_add] at h
  have HH2 : Hid (∀ i, i < 32 → w5.cell? ⟨w2.heap.size + 1, i, none⟩ = some (.int .u8 (x i))) := fun i hi => by
    have h := range_new HB2.out w5 hK5.out i (.int .u8 (x i)) (by simpa using HCG.out i hi)
    rwa [Nat.zero_add] at h
  clear hK5
  generalize w2.heap.size = h0 at *
  go_wp2_with fail
  go_loopw [28] (fun i wr => ∃ (k q : Nat), k ≤ 32 ∧ i = .int .i64 k ∧ wr = w5.drewN q) (fun i _ => 32 - (intOf i).toNat)
  case atStart => exact ⟨0, 0, by omega, rfl, rfl⟩
  case round =>
    obtain ⟨k, q, hk, rfl, rfl⟩ := hrel
    by_cases hlt : k < 32
    · have c1 := HH1.out k hlt
      have c2 := HH2.out k hlt
      go_wp2_with fail
      go_quiet (fail)
      go_wp2_with fail
      go_roundw
      case rel => exact ⟨k + 1, _, by omega, by go_num, rfl⟩
      case measure => simp [intOf]; omega
    · go_wp2_with fail
      go_ret
      exact ⟨rfl, HKE.out.drewN q⟩
end Go.Proofs.Qxb6605979a

/-
  THE WALK OF FnSignedQueryIsTheInfohashOrTheKeywordsAtTheirOffsets (3) where no infohash is given.
-/
import Derived.Test.Qxb6605979aSigParts
namespace Go.Proofs.Qxb6605979a
open Go.RowKit Go.Tocsin Go.Wire

/-- The world behind the three boxed arrays. -/
def boxed (w : World) (R6 R8 R9 : Array Value) : World := ((w.alloc (.cells R6 24)).alloc (.cells R8 25)).alloc (.cells R9 25)
theorem boxed_kp (w : World) (R6 R8 R9 : Array Value) : Kp [] w (boxed w R6 R8 R9) := (((Kp.refl [] w).alloc _).alloc _).alloc _
theorem boxed6 (w : World) (R6 R8 R9 : Array Value) : (boxed w R6 R8 R9).heap[w.heap.size]? = some (.cells R6 24) := by
  unfold boxed
  rw [Below.heap_alloc _ _ _ (by simp; omega), Below.heap_alloc _ _ _ (by simp)]
  exact heap_alloc_last w _
theorem boxed8 (w : World) (R6 R8 R9 : Array Value) : (boxed w R6 R8 R9).heap[w.heap.size + 1]? = some (.cells R8 25) := by
  unfold boxed
  rw [Below.heap_alloc _ _ _ (by simp)]
  have := heap_alloc_last (w.alloc (.cells R6 24)) (.cells R8 25)
  simpa using this
theorem boxed9 (w : World) (R6 R8 R9 : Array Value) : (boxed w R6 R8 R9).heap[w.heap.size + 2]? = some (.cells R9 25) := by
  unfold boxed
  have := heap_alloc_last ((w.alloc (.cells R6 24)).alloc (.cells R8 25)) (.cells R9 25)
  simpa using this

theorem info24 {n : Nat} (h : n = 391) : (Try.prog.info? 24).map (·.size) = some n := by subst h; kernel_rfl
theorem info25 {n : Nat} (h : n = 64) : (Try.prog.info? 25).map (·.size) = some n := by subst h; kernel_rfl
theorem info39 {n : Nat} (h : n = 920) : (Try.prog.info? 39).map (·.size) = some n := by subst h; kernel_rfl

set_option maxHeartbeats 3200000 in
set_option maxRecDepth 100000 in
theorem sig_nil (typ uuid : ByteArray) (ver qt : Int) (fh oob : Bool) (R6 R8 R9 : Array Value) (h6 : R6.size = 391) (h8 : R8.size = 64) (h9 : R9.size = 64) (o6 : Ones R6) (o8 : Ones R8) (o9 : Ones R9)
    (a : Option Addr) (n c : Nat) (ss : Nat → ByteArray) (w : World) (hn : n ≤ maxLen) (ha : a = none → n = 0 ∧ c = 0) (hc : StrAt w a n ss) :
    Calls Try.prog 3 #[.string typ, .int .i64 ver, .string uuid, .bool fh, .slice a n c, .pointer none, .agg R6, .bool oob, .agg R8, .agg R9, .int .i64 qt] w fun e w' => e = .returned (.bool true) ∧ Kp [] w w' := by
  have HR6 := hid (range_new (boxed6 w R6 R8 R9))
  have HR8 := hid (range_new (boxed8 w R6 R8 R9))
  have HR9 := hid (range_new (boxed9 w R6 R8 R9))
  have HI6 := hid (info24 (show R6.toList.length = 391 by simpa using h6))
  have HI8 := hid (info25 (show R8.toList.length = 64 by simpa using h8))
  have HI9 := hid (info25 (show R9.toList.length = 64 by simpa using h9))
  have HKB := hid (boxed_kp w R6 R8 R9)
  have HZ := hid (zzBytes5 typ uuid ver qt fh oob none R6 R8 R9 a n c ss (boxed w R6 R8 R9) hn (hc.kp HKB.out))
  have HC := hid (hc.kp HKB.out)
  have HA := hid ha
  have HB39 := hid (fun ka kc => build39 typ uuid ver qt fh oob ka n kc none R6 R8 R9 h6 h8 h9 o6 o8 o9)
  clear hc ha h6 h8 h9 o6 o8 o9
  have HBx : Hid (((w.alloc (.cells R6 24)).alloc (.cells R8 25)).alloc (.cells R9 25) = boxed w R6 R8 R9) := rfl
  have hbw := joined_length ss n
  have hjs : (⟨(joined ss n).toArray⟩ : ByteArray).size = (joined ss n).length := by simp [ByteArray.size]
  obtain ⟨J, hJ⟩ : ∃ J : ByteArray, J = ⟨(joined ss n).toArray⟩ := ⟨_, rfl⟩
  have hJs : J.size = wb ss n + (n - 1) := by rw [hJ, hjs]; omega
  have HJs := hid hJs
  have HJ := hid hJ
  clear hJ hjs hbw hJs
  obtain ⟨Z, hz, hZs, _⟩ := zero39
  have HZ39 := hid (And.intro hz hZs)
  clear hz hZs
  go_enter Try.func3, Try.ntmps3
  go_wp2_with (first
    | (rw [HBx.out])
    | (show wpList _ _ _ (Oper.mk _ (Op.load 24 (.tmp 17)) _ _ _ _ :: _) _ _; refine wpList_load_mid rfl 24 (.tmp 17) rfl w.heap.size 0 rfl R6.toList _ (HR6.out _ (Kp.refl _ _)) Try.underlying24 rfl HI6.out ?_; rw [Array.toArray_toList])
    | (show wpList _ _ _ (Oper.mk _ (Op.load 25 (.tmp 19)) _ _ _ _ :: _) _ _; refine wpList_load_mid rfl 25 (.tmp 19) rfl (w.heap.size + 1) 0 rfl R8.toList _ (HR8.out _ (Kp.refl _ _)) Try.underlying25 rfl HI8.out ?_; rw [Array.toArray_toList])
    | (show wpList _ _ _ (Oper.mk _ (Op.load 25 (.tmp 20)) _ _ _ _ :: _) _ _; refine wpList_load_mid rfl 25 (.tmp 20) rfl (w.heap.size + 2) 0 rfl R9.toList _ (HR9.out _ (Kp.refl _ _)) Try.underlying25 rfl HI9.out ?_; rw [Array.toArray_toList])
    | (go_at_call 5; refine HZ.out.mono ?_; rintro e w1 ⟨⟨β, rfl, hβ⟩, hk1⟩; have HK1 := hid hk1; clear hk1; cases β; rotate_left; have hok := hβ rfl; clear hβ; rotate_left; clear hβ; (iterate 1 go_wp2_with fail); go_ret; exact ⟨rfl, HKB.out.trans HK1.out (by simp)⟩)
    | (go_at_call 6; refine (wordBytes_calls a n c ss _ (by omega) (by omega) (HC.out.kp HK1.out)).mono ?_; rintro e w' ⟨rfl, rfl⟩))
  all_goals first | (go_ret; exact ⟨rfl, HKB.out.trans HK1.out (by simp)⟩) | skip
  refine (clone_calls a n c ss _ (by omega) HA.out (HC.out.kp HK1.out)).mono ?_
  rintro e w2 ⟨ka, kc, rfl, hkc, hS, hK2⟩
  have HS := hid hS
  have HKC := hid (HK1.out.trans hK2 (by simp))
  clear hS hK2
  obtain ⟨A, hbd, hA, h4, h5, hO⟩ := HB39.out ka kc
  have HBD := hid hbd
  have HBF := hid (And.intro hA (And.intro h4 h5))
  have HO := hid hO
  clear hbd hA h4 h5 hO
  go_wp2_with (first
    | (show wpList _ _ _ (Oper.mk _ (Op.load 24 (.tmp 17)) _ _ _ _ :: _) _ _; refine wpList_load_mid rfl 24 (.tmp 17) rfl w.heap.size 0 rfl R6.toList _ (HR6.out _ HKC.out) Try.underlying24 rfl HI6.out ?_; rw [Array.toArray_toList])
    | (show wpList _ _ _ (Oper.mk _ (Op.load 25 (.tmp 19)) _ _ _ _ :: _) _ _; refine wpList_load_mid rfl 25 (.tmp 19) rfl (w.heap.size + 1) 0 rfl R8.toList _ (HR8.out _ HKC.out) Try.underlying25 rfl HI8.out ?_; rw [Array.toArray_toList])
    | (show wpList _ _ _ (Oper.mk _ (Op.load 25 (.tmp 20)) _ _ _ _ :: _) _ _; refine wpList_load_mid rfl 25 (.tmp 20) rfl (w.heap.size + 2) 0 rfl R9.toList _ (HR9.out _ HKC.out) Try.underlying25 rfl HI9.out ?_; rw [Array.toArray_toList])
    | (show wpList _ _ _ (Oper.mk _ (Op.build 33 _) _ _ _ _ :: _) _ _; refine wpList_builtL rfl 33 _ rfl _ rfl _ (build33 typ ver) ?_)
    | (show wpList _ _ _ (Oper.mk _ (Op.build 39 _) _ _ _ _ :: _) _ _; refine wpList_builtL rfl 39 _ rfl _ rfl A HBD.out ?_)
    | (show wpList _ _ _ (Oper.mk _ (Op.alloc 39) _ _ _ _ :: _) _ _; refine wpList_alloc_row rfl 39 rfl Z 920 HZ39.out.1 ?_)
    | (show wpList _ _ _ (Oper.mk _ (Op.store 39 _ _) _ _ _ _ :: _) _ _; refine wpList_store_new rfl 39 (.tmp 26) (.tmp 86) rfl A rfl rfl Z (info39 HBF.out.1) (by rw [HZ39.out.2, HBF.out.1]) HO.out ?_)
    | (show wpList _ _ _ (Oper.mk _ (Op.load 39 _) _ _ _ _ :: _) _ _; refine wpList_load_mid rfl 39 (.tmp 26) rfl w2.heap.size 0 rfl A.toList _ (range_last _ _ _) Try.underlying39 rfl (info39 (by rw [Array.length_toList]; exact HBF.out.1)) ?_; rw [Array.toArray_toList]))
  refine (ZZSignedQuery_calls A ⟨(joined ss n).toArray⟩ _ HBF.out.1 (signedQuery_calls A ka n kc ss _ HBF.out.2.1 HBF.out.2.2 hkc (by omega) (HS.out.kp (((Kp.refl [] w2).alloc _).alloc _)))).mono ?_
  rw [← HJ.out]
  rintro e w4 ⟨g, gc, rfl, _, hgc, hby, hK4⟩
  have HKE := hid (((HKB.out.trans HKC.out (by simp)).alloc _).trans hK4.out (by simp))
  have HS4 := hid (HS.out.kp (((Kp.refl [] w2).alloc _).trans hK4.out (by simp)))
  clear hK4
  have hJs := HJs.out
  by_cases h0 : n = 0
  · subst h0
    have hJ0 : J.size = 0 := by rw [hJs]; rfl
    clear hJs
    go_wp2_with fail
    go_ret
    exact ⟨by simp, HKE.out⟩
  have hget : ∀ i x, (joined ss n)[i]? = some x → w4.cell? ⟨g, i, none⟩ = some (.int .u8 (x.toNat : Int)) := by
    intro i x hx
    have hi : i < J.size := by
      have := (List.getElem?_eq_some_iff.1 hx).1
      rw [joined_length] at this
      omega
    have e := toL_get J i hi
    have hT : toL J = joined ss n := by rw [HJ.out, toL_mk]
    rw [hT, hx] at e
    have h1 := hby.out i hi
    rw [Nat.zero_add] at h1
    rw [h1, Option.some.inj e]
  have HWd : Hid (∀ k j (hj : j < (ss k).size), k < n → w4.cell? ⟨g, wb ss k + k + j, none⟩ = some (.int .u8 (((ss k)[j]'hj).toNat : Int))) := fun k j hj hk =>
    hget _ _ ((joined_word ss n k j hk hj).trans (toL_get (ss k) j hj))
  have HSp : Hid (∀ k, k + 1 < n → w4.cell? ⟨g, wb ss (k + 1) + k, none⟩ = some (.int .u8 32)) := fun k hk => hget _ _ (joined_space ss n k hk)
  have hcmp : (J.size : Int) = (wb ss n : Int) + (n : Int) - 1 := by omega
  have hJb : J.size ≤ 2097152 := by omega
  clear hJs
  obtain ⟨kb, ko, rfl, hkc4⟩ := HS4.out (by omega)
  have HKW := hid hkc4
  clear hget hkc4 hby
  go_wp2_with (go_at_call 6; refine (wordBytes_calls _ n kc ss w4 (by omega) (by omega) HS4.out).mono ?_; rintro e w' ⟨rfl, hw'⟩; have hw2 := hw'.symm; subst hw2; clear hw')
  clear hcmp
  have hok2 : n + wb ss n ≤ 1048576 := by omega
  clear hok
  go_loopw [29, 30] (fun t i wr => ∃ (k p q : Nat), k ≤ n ∧ i = .int .i64 k ∧ t = .int .i64 p ∧ (k < n → p = wb ss k + k) ∧ p ≤ J.size ∧ wr = w4.drewN q) (fun _ i _ => n - (intOf i).toNat)
  case atStart => exact ⟨0, 0, 0, by omega, rfl, rfl, fun _ => rfl, by omega, rfl⟩
  case round =>
    obtain ⟨k, p, q, hk, rfl, rfl, hp, hp2, rfl⟩ := hrel
    by_cases hlt : k < n
    · have hpe := hp hlt
      clear hp
      have hb1 := wb_mono ss (show k + 1 ≤ n by omega)
      have hb2 : wb ss (k + 1) = wb ss k + (ss k).size := rfl
      have hJn := HJs.out
      have hck := HKW.out k hlt
      have HW2 := hid (fun j (hj : j < (ss k).size) => HWd.out k j hj hlt)
      have HS2 := hid (HSp.out k)
      have hps : p + (ss k).size ≤ J.size := by omega
      have hps1 : k + 1 < n → p + (ss k).size < J.size := by omega
      have hss : (ss k).size ≤ 1048576 := by omega
      have HPN := hid (show k + 1 < n → p + (ss k).size + 1 = wb ss (k + 1) + (k + 1) by omega)
      obtain ⟨s, hs⟩ : ∃ s, s = ss k := ⟨_, rfl⟩
      have HW3 : Hid (∀ j (hj : j < s.size), w4.cell? ⟨g, p + j, none⟩ = some (.int .u8 ((s[j]'hj).toNat : Int))) := by
        subst hs
        intro j hj
        rw [hpe]
        exact HW2.out j hj
      have HS3 : Hid (k + 1 < n → w4.cell? ⟨g, p + s.size, none⟩ = some (.int .u8 32)) := by
        subst hs
        intro h
        have := HS2.out h
        rwa [show wb ss (k + 1) + k = p + (ss k).size by omega] at this
      rw [← hs] at hck hps hps1 hss HPN
      clear hb1 hb2 hJn HW2 HS2 hpe hs
      go_wp2_with fail
      go_loopw [32] (fun i wr => ∃ (j r : Nat), j ≤ s.size ∧ i = .int .i64 j ∧ wr = w4.drewN r) (fun i _ => s.size - (intOf i).toNat)
      case atStart => exact ⟨0, q, by omega, rfl, rfl⟩
      case round =>
        obtain ⟨j, r, hj, rfl, rfl⟩ := hrel
        by_cases hjl : j < s.size
        · have hcj := HW3.out j hjl
          have hpj : p + j < J.size := by omega
          go_wp2_with fail
          go_quiet (fail)
          go_wp2_with fail
          go_roundw
          case rel => exact ⟨j + 1, _, by omega, by go_num, rfl⟩
          case measure => simp [intOf]; omega
        · obtain rfl : j = s.size := by omega
          by_cases hk1 : ((k : Int) + 1 < (n : Int))
          · have hk1' : k + 1 < n := by omega
            have hc32 := HS3.out hk1'
            have hp1 := hps1 hk1'
            clear hps1
            go_wp2_with fail
            go_roundw
            case rel => exact ⟨k + 1, p + s.size + 1, r, by omega, by go_num, by go_num, fun _ => HPN.out hk1', by omega, rfl⟩
            case measure => simp [intOf]; omega
          · clear hps1
            go_wp2_with fail
            go_roundw
            case rel => exact ⟨k + 1, p + s.size, r, by omega, by go_num, by go_num, fun h => by omega, by omega, rfl⟩
            case measure => simp [intOf]; omega
    · go_wp2_with fail
      go_ret
      exact ⟨rfl, HKE.out.drewN q⟩
end Go.Proofs.Qxb6605979a

/-
  THE WALKS OF THE CLONES: cloneInts (8), cloneU64 (9), cloneU8 (14), cloneBools (15).
-/
import Derived.Test.Qxb6615056aFmtRows
import Derived.Test.Qxb6615056aFmtBase
namespace Go.Proofs.Qxb6615056aFmt
open Go.RowKit Go.Tocsin

theorem Tryf.info3 : (Tryf.prog.info? 3).map (fun i => (i.zero, i.size, i.bytes)) = some (some (.int .i64 0), 1, 8) := by kernel_rfl
theorem Tryf.info30 : (Tryf.prog.info? 30).map (fun i => (i.zero, i.size, i.bytes)) = some (some (.int .u64 0), 1, 8) := by kernel_rfl
theorem Tryf.info5 : (Tryf.prog.info? 5).map (fun i => (i.zero, i.size, i.bytes)) = some (some (.int .u8 0), 1, 1) := by kernel_rfl
theorem Tryf.info4 : (Tryf.prog.info? 4).map (fun i => (i.zero, i.size, i.bytes)) = some (some (.bool false), 1, 1) := by kernel_rfl

set_option maxHeartbeats 800000 in
set_option maxRecDepth 100000 in
theorem cloneInts_some (b off len cap : Nat) (G : Nat → Value) (w : World) (hl : len ≤ 1048576) (h1 : ∀ i, (G i).oneCell' = true) (hc : ∀ i, i < len → w.cell? ⟨b, off + i, none⟩ = some (G i)) :
    Calls Tryf.prog 8 #[.slice (some ⟨b, off, none⟩) len cap] w fun e w' => ∃ g, e = .returned (.slice (some ⟨g, 0, none⟩) len len) ∧ w.heap.size ≤ g ∧ Row w' g 3 len G ∧ Kp [] w w' := by
  obtain ⟨i0, hi, hz0, hz1, hz2⟩ := info_parts Tryf.info3
  have hnil := fun w => Lib.run_eql_slice_nil (P := Tryf.prog) w 22 3 (some ⟨b, off, none⟩) len cap 0 0 Tryf.underlying22
  go_enter Tryf.func8, Tryf.ntmps8
  go_wp2_with (first
    | (at_make; refine wpList_make_row _ rfl _ _ 22 rfl 3 i0 (.int .i64 0) 1 Tryf.underlying22 hi hz0 hz1 _ _ _ _ len rfl rfl rfl rfl (by rw [hz2]; omega) (by unfold maxLen; omega) (fun _ => .int .i64 0) (by rw [Nat.mul_one]; exact madeCells_one _ _) ?_; intro w1 hr1 hk1 hs1)
    | (refine wpList_copy_row 3 Tryf.underlying22 (by kernel_rfl) w.heap.size len len b off cap rfl rfl _ G (by rw [Nat.mul_one] at hr1; exact hr1) (fun i h => hk1.cell' (hc i h) (by simp)) h1 ?_; intro w2 hr2 hk2 hs2))
  go_ret
  exact ⟨w.heap.size, rfl, Nat.le_refl _, hr2, hk1.trans hk2 (by simp)⟩

set_option maxHeartbeats 800000 in
set_option maxRecDepth 100000 in
theorem cloneU64_some (b off len cap : Nat) (G : Nat → Value) (w : World) (hl : len ≤ 1048576) (h1 : ∀ i, (G i).oneCell' = true) (hc : ∀ i, i < len → w.cell? ⟨b, off + i, none⟩ = some (G i)) :
    Calls Tryf.prog 9 #[.slice (some ⟨b, off, none⟩) len cap] w fun e w' => ∃ g, e = .returned (.slice (some ⟨g, 0, none⟩) len len) ∧ w.heap.size ≤ g ∧ Row w' g 30 len G ∧ Kp [] w w' := by
  obtain ⟨i0, hi, hz0, hz1, hz2⟩ := info_parts Tryf.info30
  have hnil := fun w => Lib.run_eql_slice_nil (P := Tryf.prog) w 23 30 (some ⟨b, off, none⟩) len cap 0 0 Tryf.underlying23
  go_enter Tryf.func9, Tryf.ntmps9
  go_wp2_with (first
    | (at_make; refine wpList_make_row _ rfl _ _ 23 rfl 30 i0 (.int .u64 0) 1 Tryf.underlying23 hi hz0 hz1 _ _ _ _ len rfl rfl rfl rfl (by rw [hz2]; omega) (by unfold maxLen; omega) (fun _ => .int .u64 0) (by rw [Nat.mul_one]; exact madeCells_one _ _) ?_; intro w1 hr1 hk1 hs1)
    | (refine wpList_copy_row 30 Tryf.underlying23 (by kernel_rfl) w.heap.size len len b off cap rfl rfl _ G (by rw [Nat.mul_one] at hr1; exact hr1) (fun i h => hk1.cell' (hc i h) (by simp)) h1 ?_; intro w2 hr2 hk2 hs2))
  go_ret
  exact ⟨w.heap.size, rfl, Nat.le_refl _, hr2, hk1.trans hk2 (by simp)⟩

set_option maxHeartbeats 800000 in
set_option maxRecDepth 100000 in
theorem cloneU8_some (b off len cap : Nat) (G : Nat → Value) (w : World) (hl : len ≤ 1048576) (h1 : ∀ i, (G i).oneCell' = true) (hc : ∀ i, i < len → w.cell? ⟨b, off + i, none⟩ = some (G i)) :
    Calls Tryf.prog 14 #[.slice (some ⟨b, off, none⟩) len cap] w fun e w' => ∃ g, e = .returned (.slice (some ⟨g, 0, none⟩) len len) ∧ w.heap.size ≤ g ∧ Row w' g 5 len G ∧ Kp [] w w' := by
  obtain ⟨i0, hi, hz0, hz1, hz2⟩ := info_parts Tryf.info5
  have hnil := fun w => Lib.run_eql_slice_nil (P := Tryf.prog) w 31 5 (some ⟨b, off, none⟩) len cap 0 0 Tryf.underlying31
  go_enter Tryf.func14, Tryf.ntmps14
  go_wp2_with (first
    | (at_make; refine wpList_make_row _ rfl _ _ 31 rfl 5 i0 (.int .u8 0) 1 Tryf.underlying31 hi hz0 hz1 _ _ _ _ len rfl rfl rfl rfl (by rw [hz2]; omega) (by unfold maxLen; omega) (fun _ => .int .u8 0) (by rw [Nat.mul_one]; exact madeCells_one _ _) ?_; intro w1 hr1 hk1 hs1)
    | (refine wpList_copy_row 5 Tryf.underlying31 (by kernel_rfl) w.heap.size len len b off cap rfl rfl _ G (by rw [Nat.mul_one] at hr1; exact hr1) (fun i h => hk1.cell' (hc i h) (by simp)) h1 ?_; intro w2 hr2 hk2 hs2))
  go_ret
  exact ⟨w.heap.size, rfl, Nat.le_refl _, hr2, hk1.trans hk2 (by simp)⟩

set_option maxHeartbeats 800000 in
set_option maxRecDepth 100000 in
theorem cloneBools_some (b off len cap : Nat) (G : Nat → Value) (w : World) (hl : len ≤ 1048576) (h1 : ∀ i, (G i).oneCell' = true) (hc : ∀ i, i < len → w.cell? ⟨b, off + i, none⟩ = some (G i)) :
    Calls Tryf.prog 15 #[.slice (some ⟨b, off, none⟩) len cap] w fun e w' => ∃ g, e = .returned (.slice (some ⟨g, 0, none⟩) len len) ∧ w.heap.size ≤ g ∧ Row w' g 4 len G ∧ Kp [] w w' := by
  obtain ⟨i0, hi, hz0, hz1, hz2⟩ := info_parts Tryf.info4
  have hnil := fun w => Lib.run_eql_slice_nil (P := Tryf.prog) w 32 4 (some ⟨b, off, none⟩) len cap 0 0 Tryf.underlying32
  go_enter Tryf.func15, Tryf.ntmps15
  go_wp2_with (first
    | (at_make; refine wpList_make_row _ rfl _ _ 32 rfl 4 i0 (.bool false) 1 Tryf.underlying32 hi hz0 hz1 _ _ _ _ len rfl rfl rfl rfl (by rw [hz2]; omega) (by unfold maxLen; omega) (fun _ => .bool false) (by rw [Nat.mul_one]; exact madeCells_one _ _) ?_; intro w1 hr1 hk1 hs1)
    | (refine wpList_copy_row 4 Tryf.underlying32 (by kernel_rfl) w.heap.size len len b off cap rfl rfl _ G (by rw [Nat.mul_one] at hr1; exact hr1) (fun i h => hk1.cell' (hc i h) (by simp)) h1 ?_; intro w2 hr2 hk2 hs2))
  go_ret
  exact ⟨w.heap.size, rfl, Nat.le_refl _, hr2, hk1.trans hk2 (by simp)⟩

end Go.Proofs.Qxb6615056aFmt

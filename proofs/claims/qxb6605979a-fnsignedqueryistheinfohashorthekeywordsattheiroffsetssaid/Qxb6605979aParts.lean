/-
  THE WALKS OF splitSpaces (10), sameStrings (11), wordBytes (6), zzBytes (9), cloneStrings (7).
-/
import Derived.Test.Qxb6605979aRows
import Derived.Test.Qxb6605979aBase
import Derived.Test.Qxb6605979aPlain
namespace Go.Proofs.Qxb6605979a
open Go.RowKit Go.Tocsin Go.Wire
theorem Try.info9 : (Try.prog.info? 9).map (fun i => (i.zero, i.size, i.bytes)) = some (some (.string ⟨#[]⟩), 1, 16) := by kernel_rfl

theorem strs_one (pcs : List ByteArray) : ∀ u ∈ pcs.map Value.string, u.oneCell' = true := by
  intro u hu
  obtain ⟨_, _, rfl⟩ := List.mem_map.1 hu
  rfl

/-- One string laid in a block of its own: what 'append' asks of its source. -/
theorem one_cell (w : World) (v : Value) (t : TypeId) : ∀ (j : Nat) u, [v][j]? = some u → (w.alloc (.cells #[v] t)).cell? ((⟨w.heap.size, 0, none⟩ : Addr).add j) = some u := by
  intro j u hj
  match j, hj with
  | 0, hj =>
    simp at hj
    subst hj
    simp [Addr.add]

set_option maxHeartbeats 1600000 in
set_option maxRecDepth 100000 in
theorem splitSpaces_calls (s : ByteArray) (w : World) (hs : s.size ≤ 1048576) :
    Calls Try.prog 10 #[.string s] w fun e w' => ∃ (a : Option Addr) (c : Nat) (pcs : List ByteArray), e = .returned (.slice a pcs.length c) ∧ OwnL w' 9 (.slice a pcs.length c) (pcs.map Value.string) ∧ pcs.map toL = splitL (toL s) ∧ (∀ k ∈ blks (.slice a pcs.length c), w.heap.size ≤ k) ∧ Kp [] w w' := by
  obtain ⟨i0, hi, hz0, hz1, hz2⟩ := info_parts Try.info9
  go_enter Try.func10, Try.ntmps10
  go_wp2
  go_loopw [3, 4, 5] (fun o st i wr => ∃ (a : Option Addr) (c k q : Nat) (pcs : List ByteArray), q ≤ k ∧ k ≤ s.size ∧ i = .int .i64 k ∧ st = .int .i64 q ∧ o = .slice a pcs.length c ∧ pcs.length ≤ k ∧ OwnL wr 9 (.slice a pcs.length c) (pcs.map Value.string) ∧ Hid (pcs.map toL ++ splitL ((toL s).drop q) = splitL (toL s)) ∧ Hid (∀ j, q ≤ j → j < k → (toL s)[j]? ≠ some 32) ∧ (∀ k ∈ blks (.slice a pcs.length c), w.heap.size ≤ k) ∧ Kp [] w wr) (fun _ _ i _ => s.size - (intOf i).toNat)
  case atStart => exact ⟨none, 0, 0, 0, [], by omega, by omega, rfl, rfl, rfl, by simp, OwnL.nil _ _, by simp [Hid], fun j h1 h2 => by omega, by simp [blks, Value.ownBlock], Kp.refl _ _⟩
  case round =>
    obtain ⟨a, c, k, q, pcs, hq, hk, rfl, rfl, rfl, hpl, ho, HP, HNo, hbk, hkp⟩ := hrel
    have HO := hid ho
    have HB := hid hbk
    have HK := hid hkp
    clear ho hbk hkp
    have hml : (pcs.map Value.string).length = pcs.length := by simp
    have HO' : Hid (OwnL wr 9 (.slice a pcs.length c) (pcs.map Value.string)) := HO
    by_cases hlt : k < s.size
    · have hg := toL_get s k hlt
      by_cases hsp : ((s[k].toNat : Int) == 32) = true
      · have h32 : s[k] = 32 := by
          have h1 : (s[k].toNat : Int) = 32 := by simpa using hsp
          have h2 : s[k].toNat = 32 := by omega
          exact UInt8.toNat_inj.1 h2
        have HStep := hid (split_step (l := toL s) hq (by rw [toL_length]; exact hlt) (by rw [hg, h32]) HNo.out)
        clear h32 hg
        go_wp2_with (at_builtin; refine wpList_append_many rfl (.tmp 16) (.tmp 21) 22 rfl 9 i0 (.string ⟨#[]⟩) 16 Try.underlying22 hi hz0 hz1 hz2 rfl (.slice a pcs.length c) (pcs.map Value.string) rfl (HO.out.alloc _) ⟨wr.heap.size, 0, none⟩ 1 [Value.string (s.extract q k)] rfl (one_cell wr _ _) (by intro u hu; simp at hu; subst hu; rfl) (by rw [hml]; unfold maxLen; simp; omega) (by rw [hml]; simp; omega) ?_; intro v' w2 ho2 hk2 hb2; obtain ⟨a', c', e', _⟩ := ho2.elim; rw [show (pcs.map Value.string ++ [Value.string (s.extract q k)]).length = (pcs ++ [s.extract q k]).length by simp] at e'; subst e'; have HO2 := hid ho2; have HK2 := hid hk2; have HB2 := hid hb2; clear ho2 hk2 hb2)
        go_roundw
        case rel =>
          refine ⟨a', c', k + 1, k + 1, pcs ++ [s.extract q k], by omega, by omega, by go_num, by go_num, by simp, by simp; omega, by simpa using HO2.out, ?_, fun j h1 h2 => by omega, fun j hj => ?_, (HK.out.alloc _).trans HK2.out (fun i hi => .inr (HB.out i hi))⟩
          · show _ = _
            rw [← HP.out, HStep.out, List.map_append, List.append_assoc]
            simp [toL_extract]
          · rcases HB2.out j hj with h | h
            · exact HB.out j h
            · have := HK.out.size; simp at h; omega
        case measure => simp [intOf]; omega
      · have hsp' : ((s[k].toNat : Int) == 32) = false := by simpa using hsp
        have h32 : s[k] ≠ 32 := fun h => by rw [h] at hsp; exact hsp rfl
        have HNk : Hid ((toL s)[k]? ≠ some 32) := by show _ ≠ _; rw [hg]; simpa using h32
        clear hsp h32 hg
        go_wp2
        go_roundw
        case rel =>
          refine ⟨a, c, k + 1, q, pcs, by omega, by omega, by go_num, by go_num, rfl, by omega, HO.out, HP, fun j h1 h2 => ?_, HB.out, HK.out⟩
          by_cases e : j = k
          · subst e; exact HNk.out
          · exact HNo.out j h1 (by omega)
        case measure => simp [intOf]; omega
    · obtain rfl : k = s.size := by omega
      have HEnd := hid (split_end (l := toL s) (q := q) (fun j h1 h2 => HNo.out j h1 (by rw [toL_length] at h2; exact h2)))
      go_wp2_with (at_builtin; refine wpList_append_many rfl (.tmp 25) (.tmp 29) 22 rfl 9 i0 (.string ⟨#[]⟩) 16 Try.underlying22 hi hz0 hz1 hz2 rfl (.slice a pcs.length c) (pcs.map Value.string) rfl (HO.out.alloc _) ⟨wr.heap.size, 0, none⟩ 1 [Value.string (s.extract q s.size)] rfl (one_cell wr _ _) (by intro u hu; simp at hu; subst hu; rfl) (by rw [hml]; unfold maxLen; simp; omega) (by rw [hml]; simp; omega) ?_; intro v' w2 ho2 hk2 hb2; obtain ⟨a', c', e', _⟩ := ho2.elim; rw [show (pcs.map Value.string ++ [Value.string (s.extract q s.size)]).length = (pcs ++ [s.extract q s.size]).length by simp] at e'; subst e'; have HO2 := hid ho2; have HK2 := hid hk2; have HB2 := hid hb2; clear ho2 hk2 hb2)
      go_ret
      refine ⟨a', c', pcs ++ [s.extract q s.size], by rw [show (pcs ++ [s.extract q s.size]).length = pcs.length + 1 by simp]; rfl, by simpa using HO2.out, ?_, fun j hj => ?_, (HK.out.alloc _).trans HK2.out (fun i hi => .inr (HB.out i hi))⟩
      · rw [← HP.out, HEnd.out, List.map_append]
        congr 1
        simp only [List.map_cons, List.map_nil, toL_extract]
        rw [List.take_of_length_le (by rw [List.length_drop, toL_length]; omega)]
      · rcases HB2.out j hj with h | h
        · exact HB.out j h
        · have := HK.out.size; simp at h; omega

set_option maxHeartbeats 1600000 in
set_option maxRecDepth 100000 in
theorem sameStrings_calls (b1 b2 c1 c2 : Nat) (p : List ByteArray) (w : World) (hn : p.length ≤ 4194304) (h1 : ∀ i x, p[i]? = some x → w.cell? ⟨b1, i, none⟩ = some (.string x)) (h2 : ∀ i x, p[i]? = some x → w.cell? ⟨b2, i, none⟩ = some (.string x)) :
    Calls Try.prog 11 #[.slice (some ⟨b1, 0, none⟩) p.length c1, .slice (some ⟨b2, 0, none⟩) p.length c2] w fun e w' => e = .returned (.bool true) ∧ ∃ q, w' = w.drewN q := by
  have H1 := hid h1
  have H2 := hid h2
  clear h1 h2
  obtain ⟨n, hnd⟩ : ∃ n, n = p.length := ⟨_, rfl⟩
  rw [← hnd] at hn ⊢
  have HN := hid hnd
  clear hnd
  go_enter Try.func11, Try.ntmps11
  go_wp2
  go_loopw [5] (fun i wr => ∃ k q : Nat, k ≤ n ∧ i = .int .i64 k ∧ wr = w.drewN q) (fun i _ => n - (intOf i).toNat)
  case atStart => exact ⟨0, 0, by omega, rfl, rfl⟩
  case round =>
    obtain ⟨k, q, hk, rfl, rfl⟩ := hrel
    by_cases hlt : k < n
    · obtain ⟨x, hx⟩ : ∃ x, p[k]? = some x := ⟨_, List.getElem?_eq_getElem (by have := HN.out; omega)⟩
      have c1 := H1.out k x hx
      have c2 := H2.out k x hx
      clear hx
      go_wp2
      go_quiet (fail)
      go_wp2
      go_roundw
      case rel => exact ⟨k + 1, _, by omega, by go_num, rfl⟩
      case measure => simp [intOf]; omega
    · go_wp2
      go_ret
      exact ⟨rfl, _, rfl⟩

/-- The bytes of the first k words. -/
def wb (ss : Nat → ByteArray) : Nat → Nat
  | 0 => 0
  | k + 1 => wb ss k + (ss k).size
theorem wb_mono (ss : Nat → ByteArray) {m n : Nat} (h : m ≤ n) : wb ss m ≤ wb ss n := by
  induction n with
  | zero => obtain rfl : m = 0 := by omega
            exact Nat.le_refl _
  | succ n ih =>
    by_cases e : m = n + 1
    · subst e; exact Nat.le_refl _
    · have := ih (by omega); simp only [wb]; omega

set_option maxHeartbeats 1600000 in
set_option maxRecDepth 100000 in
theorem wordBytes_calls (a : Option Addr) (n c : Nat) (ss : Nat → ByteArray) (w : World) (hn : n ≤ 1048576) (hb : wb ss n ≤ 1048576) (hc : 0 < n → ∃ b off, a = some ⟨b, off, none⟩ ∧ ∀ i, i < n → w.cell? ⟨b, off + i, none⟩ = some (.string (ss i))) :
    Calls Try.prog 6 #[.slice a n c] w fun e w' => e = .returned (.int .i64 (wb ss n : Nat)) ∧ w' = w := by
  by_cases h0 : n = 0
  · subst h0
    clear hc
    go_enter Try.func6, Try.ntmps6
    go_wp2
    go_loop [3, 4] (fun t i => t = .int .i64 0 ∧ i = .int .i64 0) (fun _ _ => 0)
    case atStart => exact ⟨rfl, rfl⟩
    case round =>
      obtain ⟨rfl, rfl⟩ := hrel
      go_wp2
      go_ret
      exact ⟨rfl, rfl⟩
  obtain ⟨b, off, rfl, hcell⟩ := hc (by omega)
  have HC := hid hcell
  clear hcell hc
  go_enter Try.func6, Try.ntmps6
  go_wp2
  go_loop [3, 4] (fun t i => ∃ k : Nat, k ≤ n ∧ i = .int .i64 k ∧ t = .int .i64 (wb ss k : Nat)) (fun _ i => n - (intOf i).toNat)
  case atStart => exact ⟨0, by omega, rfl, rfl⟩
  case round =>
    obtain ⟨k, hk, rfl, rfl⟩ := hrel
    by_cases hlt : k < n
    · have hck := HC.out k hlt
      have h1 := wb_mono ss (show k + 1 ≤ n by omega)
      have h2 : wb ss (k + 1) = wb ss k + (ss k).size := rfl
      have HE := hid h2
      have h3 : wb ss k + (ss k).size ≤ 1048576 := by omega
      clear h1 h2
      go_wp2
      go_round
      case rel => exact ⟨k + 1, by omega, by go_num, by rw [HE.out]; go_num⟩
      case measure => simp [intOf]; omega
    · obtain rfl : n = k := by omega
      go_wp2
      go_ret
      exact ⟨rfl, rfl⟩

set_option maxHeartbeats 800000 in
set_option maxRecDepth 100000 in
theorem cloneStrings_nil (w : World) : Calls Try.prog 7 #[.slice none 0 0] w fun e w' => e = .returned (.slice none 0 0) ∧ w' = w := by
  have hnil := fun w => Lib.run_eql_slice_nil (P := Try.prog) w 22 9 none 0 0 0 0 Try.underlying22
  go_enter Try.func7, Try.ntmps7
  go_wp2
  go_ret
  exact ⟨rfl, rfl⟩

set_option maxHeartbeats 800000 in
set_option maxRecDepth 100000 in
theorem cloneStrings_some (b off len cap : Nat) (G : Nat → Value) (w : World) (hl : len ≤ 1048576) (h1 : ∀ i, (G i).oneCell' = true) (hc : ∀ i, i < len → w.cell? ⟨b, off + i, none⟩ = some (G i)) :
    Calls Try.prog 7 #[.slice (some ⟨b, off, none⟩) len cap] w fun e w' => ∃ g, e = .returned (.slice (some ⟨g, 0, none⟩) len len) ∧ w.heap.size ≤ g ∧ Row w' g 9 len G ∧ Kp [] w w' := by
  obtain ⟨i0, hi, hz0, hz1, hz2⟩ := info_parts Try.info9
  have hnil := fun w => Lib.run_eql_slice_nil (P := Try.prog) w 22 9 (some ⟨b, off, none⟩) len cap 0 0 Try.underlying22
  go_enter Try.func7, Try.ntmps7
  go_wp2_with (first
    | (at_make; refine wpList_make_row _ rfl _ _ 22 rfl 9 i0 (.string ⟨#[]⟩) 1 Try.underlying22 hi hz0 hz1 _ _ _ _ len rfl rfl rfl rfl (by rw [hz2]; omega) (by unfold maxLen; omega) (fun _ => .string ⟨#[]⟩) (by rw [Nat.mul_one]; exact madeCells_one _ _) ?_; intro w1 hr1 hk1 hs1)
    | (refine wpList_copy_row 9 Try.underlying22 (by kernel_rfl) w.heap.size len len b off cap rfl rfl _ G (by rw [Nat.mul_one] at hr1; exact hr1) (fun i h => hk1.cell' (hc i h) (by simp)) h1 ?_; intro w2 hr2 hk2 hs2))
  go_ret
  exact ⟨w.heap.size, rfl, Nat.le_refl _, hr2, hk1.trans hk2 (by simp)⟩

/-- The cells of a slice of strings that came in. -/
def StrAt (w : World) (a : Option Addr) (n : Nat) (ss : Nat → ByteArray) : Prop :=
  0 < n → ∃ b off, a = some ⟨b, off, none⟩ ∧ ∀ i, i < n → w.cell? ⟨b, off + i, none⟩ = some (.string (ss i))

set_option maxHeartbeats 1600000 in
set_option maxRecDepth 100000 in
theorem zzBytes9 (a : Option Addr) (n c : Nat) (ss : Nat → ByteArray) (w : World) (hn : n ≤ maxLen) (hc : StrAt w a n ss) :
    Calls Try.prog 9 #[.slice a n c] w fun e w' => SaysB (n + wb ss n ≤ 1048576) e ∧ w' = w := by
  unfold maxLen at hn
  by_cases g0 : (1048576 : Int) < (n : Int)
  · clear hc
    go_enter Try.func9, Try.ntmps9
    go_wp2
    go_ret
    exact ⟨SaysB.no _, rfl⟩
  by_cases h0 : n = 0
  · subst h0
    clear hc
    go_enter Try.func9, Try.ntmps9
    go_wp2
    go_loop [3, 4] (fun t i => t = .int .i64 0 ∧ i = .int .i64 0) (fun _ _ => 0)
    case atStart => exact ⟨rfl, rfl⟩
    case round =>
      obtain ⟨rfl, rfl⟩ := hrel
      go_wp2
      go_ret
      exact ⟨SaysB.yes (by simp [wb]), rfl⟩
  obtain ⟨b, off, rfl, hcell⟩ := hc (by omega)
  have HC := hid hcell
  clear hcell hc
  go_enter Try.func9, Try.ntmps9
  go_wp2
  go_loop [3, 4] (fun t i => ∃ k : Nat, k ≤ n ∧ i = .int .i64 k ∧ t = .int .i64 ((n + wb ss k : Nat) : Int) ∧ n + wb ss k ≤ 1048576) (fun _ i => n - (intOf i).toNat)
  case atStart => exact ⟨0, by omega, rfl, rfl, by simp [wb]; omega⟩
  case round =>
    obtain ⟨k, hk, rfl, rfl, hkb⟩ := hrel
    by_cases hlt : k < n
    · have hck := HC.out k hlt
      by_cases g1 : (1048576 : Int) < ((ss k).size : Int)
      · go_wp2
        go_ret
        exact ⟨SaysB.no _, rfl⟩
      by_cases g2 : (1048576 : Int) < (n : Int) + (wb ss k : Int) + ((ss k).size : Int)
      · go_wp2
        go_ret
        exact ⟨SaysB.no _, rfl⟩
      · have h2 : wb ss (k + 1) = wb ss k + (ss k).size := rfl
        have HE := hid h2
        clear h2
        go_wp2
        go_round
        case rel => exact ⟨k + 1, by omega, by go_num, by rw [HE.out]; go_num, by rw [HE.out]; omega⟩
        case measure => simp [intOf]; omega
    · obtain rfl : n = k := by omega
      have HK := hid hkb
      clear hkb
      go_wp2
      go_ret
      exact ⟨SaysB.yes HK.out, rfl⟩

end Go.Proofs.Qxb6605979a

/-
  enter: one frame more on the path.
-/
import Derived.Test.Qxb6615056aDoorStart
import Derived.Laws.AppendOwn
namespace Go.Proofs.Qxb6615056aDoor
open Go.RowKit Go.Tocsin

/-- The path's memory: cap places from block pb on; W: the search's other rows. -/
structure PMem (lo : Nat) (V : VP) (W : List Nat) (w : World) (pb cap : Nat) (P : Nat → Slot) : Prop where
  row : FRow w pb cap V.m P
  plo : lo ≤ pb
  pbW : pb ∉ W
  rows : ∀ i, i < cap → (P i).has = true → (∃ A, Row w (P i).gm 72 V.m A) ∧ ∃ B, Row w (P i).gd 3 V.m B
  sep : ∀ i, i < cap → (P i).has = true → lo ≤ (P i).gm ∧ lo ≤ (P i).gd ∧ (P i).gm ≠ (P i).gd ∧ (P i).gm ≠ pb ∧ (P i).gd ≠ pb ∧ (P i).gm ∉ W ∧ (P i).gd ∉ W
  dis : ∀ i j, i < cap → j < cap → i ≠ j → (P i).has = true → (P j).has = true → (P i).gm ≠ (P j).gm ∧ (P i).gm ≠ (P j).gd ∧ (P i).gd ≠ (P j).gd ∧ (P i).gd ≠ (P j).gm

theorem PMem.kp {lo : Nat} {V : VP} {W : List Nat} {w w' : World} {pb cap : Nat} {P : Nat → Slot} {S : List Nat} (h : PMem lo V W w pb cap P) (k : Kp S w w') (hS : ∀ b ∈ S, b ∈ W ∨ w.heap.size ≤ b ) : PMem lo V W w' pb cap P := by
  have hn : ∀ b, b < w.heap.size → b ∉ W → b ∉ S := fun b h1 h2 h3 => by
    rcases hS b h3 with h4 | h4
    · exact h2 h4
    · omega
  refine ⟨h.row.kp k (hn _ (Row.lt h.row) h.pbW), h.plo, h.pbW, fun i hi hh => ?_, h.sep, h.dis⟩
  obtain ⟨⟨A, hA⟩, B, hB⟩ := h.rows i hi hh
  obtain ⟨_, _, _, _, _, q1, q2⟩ := h.sep i hi hh
  exact ⟨⟨A, hA.kp k (hn _ hA.lt q1)⟩, B, hB.kp k (hn _ hB.lt q2)⟩

def zSlot : Slot := ⟨0, false, 0, 0, false, 0⟩
def pathVal (pb len cap : Nat) : Value := if cap = 0 then .slice none 0 0 else .slice (some ⟨pb, 0, none⟩) len cap

theorem Tryd.infoFr : (Tryd.prog.info? 66).map (fun i => (i.zero, i.size, i.bytes)) = some (some (.agg #[.int .i64 0, .slice none 0 0, .slice none 0 0, .bool false, .int .i64 0]), 5, 72) := by kernel_rfl

theorem fr_zero (m i : Nat) : (#[Value.int .i64 0, .slice none 0 0, .slice none 0 0, .bool false, .int .i64 0] : Array Value)[i % 5]! = frCell m zSlot (i % 5) := by
  have h : i % 5 = 0 ∨ i % 5 = 1 ∨ i % 5 = 2 ∨ i % 5 = 3 ∨ i % 5 = 4 := by omega
  rcases h with h | h | h | h | h <;> rw [h] <;> rfl

/-- The grown row, cell by cell. -/
theorem grown_cells (m len k : Nat) (P : Nat → Slot) :
    ((List.range (len * 5)).map (fun c => frCell m (P (c / 5)) (c % 5))).toArray ++ ((List.range 5).map (frCell m zSlot)).toArray ++ Builtin.zeroCells (Value.agg #[.int .i64 0, .slice none 0 0, .slice none 0 0, .bool false, .int .i64 0]).cells k =
      ((List.range ((len + 1 + k) * 5)).map (fun c => frCell m ((fun j => if j < len then P j else zSlot) (c / 5)) (c % 5))).toArray := by
  have e : (len + 1 + k) * 5 = len * 5 + (5 + k * 5) := by omega
  have hz : Builtin.zeroCells (Value.agg #[.int .i64 0, .slice none 0 0, .slice none 0 0, .bool false, .int .i64 0]).cells k = ((List.range (k * 5)).map (fun i => frCell m zSlot (i % 5))).toArray := by
    apply Array.ext'
    simp only [Builtin.zeroCells, Value.cells, List.size_toArray, List.length_cons, List.length_nil, Array.toList_map, Array.toList_range]
    apply List.map_congr_left
    intro i _
    exact fr_zero m i
  rw [hz, e, List.range_add, List.range_add]
  simp only [List.map_append, List.map_map, List.append_toArray, List.append_assoc]
  congr 1
  congr 1
  · apply List.map_congr_left
    intro c hc
    have hc' : c < len * 5 := by simpa using hc
    show _ = frCell m (if c / 5 < len then P (c / 5) else zSlot) (c % 5)
    rw [if_pos (by omega)]
  · congr 1
    · apply List.map_congr_left
      intro c hc
      have hc' : c < 5 := by simpa using hc
      show _ = frCell m (if (len * 5 + c) / 5 < len then P ((len * 5 + c) / 5) else zSlot) ((len * 5 + c) % 5)
      rw [if_neg (by omega), show (len * 5 + c) % 5 = c by omega]
    · apply List.map_congr_left
      intro c hc
      show _ = frCell m (if (len * 5 + (5 + c)) / 5 < len then P ((len * 5 + (5 + c)) / 5) else zSlot) ((len * 5 + (5 + c)) % 5)
      rw [if_neg (by omega), show (len * 5 + (5 + c)) % 5 = c % 5 by omega]

theorem grow_run (w : World) (pb len m g : Nat) (P : Nat → Slot) (hl : len ≤ 1024) (hF : 0 < len → FRow w pb len m P) (hg : ∀ k, k < 5 → w.cell? ⟨g, k, none⟩ = some (frCell m zSlot k)) :
    ∃ cap' Z, len < cap' ∧ Hid (Z = ((List.range (cap' * 5)).map (fun c => frCell m ((fun j => if j < len then P j else zSlot) (c / 5)) (c % 5))).toArray) ∧
      ∀ ty, (Builtin.append_ #[61, 61] ty #[pathVal pb len len, .slice (some ⟨g, 0, none⟩) 1 1]).run Tryd.prog w = .ok (.slice (some ⟨w.heap.size, 0, none⟩) (len + 1) cap') (w.drew.alloc (.cells Z 66)) := by
  obtain ⟨i, hi, hz0, hz1, hz2⟩ := info_parts Tryd.infoFr
  have hnl : ((List.range 5).map (frCell m zSlot)).length = 1 * i.size := by rw [hz1]; simp
  have hnews : ∀ j v, ((List.range 5).map (frCell m zSlot))[j]? = some v → w.cell? ((⟨g, 0, none⟩ : Addr).add j) = some v := fun j v hj => by
    have hj5 : j < 5 := by have := (List.getElem?_eq_some_iff.1 hj).1; simpa using this
    rw [Addr.add_lit, Nat.zero_add, hg j hj5]
    simp [hj5] at hj
    rw [hj]
  by_cases h0 : len = 0
  · subst h0
    refine ⟨grownCap w 1 0 66, _, grownCap_ge w 1 0 66, rfl, fun ty => ?_⟩
    have h := run_append_nil (P := Tryd.prog) (w := w) 61 ty 66 i _ Tryd.underlying61 hi hz0 ⟨g, 0, none⟩ 1 1 _ hnl hnews (by omega) (by omega) (by rw [hz2]; omega)
    have e := grown_cells m 0 (grownCap w 1 0 66 - 1) P
    rw [show 0 + 1 + (grownCap w 1 0 66 - 1) = grownCap w 1 0 66 by have := grownCap_ge w 1 0 66; omega] at e
    rw [← e]
    simpa [pathVal] using h
  · refine ⟨grownCap w (len + 1) len 66, _, grownCap_ge w (len + 1) len 66, rfl, fun ty => ?_⟩
    have hrow := hF (by omega)
    have h := run_append_grow (P := Tryd.prog) (w := w) 61 ty 66 i _ Tryd.underlying61 hi hz0 ⟨pb, 0, none⟩ len len ((List.range (len * 5)).map (fun c => frCell m (P (c / 5)) (c % 5))) (by rw [hz1]; simp)
      (fun j v hj => by
        have hj5 : j < len * 5 := by have := (List.getElem?_eq_some_iff.1 hj).1; simpa using this
        rw [Addr.add_lit, Nat.zero_add, Row.cell hrow hj5]
        simp [hj5] at hj
        rw [hj]) ⟨g, 0, none⟩ 1 1 _ hnl hnews (by omega) (by omega) (growslice_fits (by omega) (by rw [hz2]; omega))
    have e := grown_cells m len (grownCap w (len + 1) len 66 - (len + 1)) P
    rw [show len + 1 + (grownCap w (len + 1) len 66 - (len + 1)) = grownCap w (len + 1) len 66 by have := grownCap_ge w (len + 1) len 66; omega] at e
    rw [← e]
    have hpv : pathVal pb len len = .slice (some ⟨pb, 0, none⟩) len len := by unfold pathVal; rw [if_neg h0]
    rw [hpv]
    exact h

theorem PMem.grow {lo : Nat} {V : VP} {W : List Nat} {w w2 : World} {pb len cap' : Nat} {P : Nat → Slot} {Z : Array Value} {o : Obj} (h : 0 < len → PMem lo V W w pb len P) (hlo : lo ≤ w.heap.size) (hW : ∀ b ∈ W, b < w.heap.size)
    (hZ : Hid (Z = ((List.range (cap' * 5)).map (fun c => frCell V.m ((fun j => if j < len then P j else zSlot) (c / 5)) (c % 5))).toArray)) (hw : w2 = ((w.alloc o).drew.alloc (.cells Z 66))) :
    PMem lo V W w2 (w.heap.size + 1) cap' (fun j => if j < len then P j else zSlot) ∧ Kp [] w w2 := by
  have hk : Kp [] w w2 := by rw [hw]; exact (((Kp.refl _ _).alloc _).drew).alloc _
  refine ⟨?_, hk⟩
  have hin : ∀ i, (if i < len then P i else zSlot).has = true → i < len ∧ (if i < len then P i else zSlot) = P i := fun i hh => by
    by_cases e : i < len
    · exact ⟨e, if_pos e⟩
    · rw [if_neg e] at hh
      cases hh
  have e1 : (w.alloc o).drew.heap.size = w.heap.size + 1 := by
    show (w.alloc o).heap.size = _
    simp
  refine ⟨?_, by omega, fun hb => by have := hW _ hb; omega, fun i hi hh => ?_, fun i hi hh => ?_, fun i j hi hj hne hh hh' => ?_⟩
  · rw [hw]
    refine Row.of_heap ?_ hZ
    rw [← e1]
    exact heap_alloc_new _ _
  · obtain ⟨a1, a2⟩ := hin i hh
    rw [a2] at hh ⊢
    have hp := h (by omega)
    obtain ⟨⟨A, hA⟩, B, hB⟩ := hp.rows i a1 hh
    exact ⟨⟨A, hA.kp hk (by simp)⟩, B, hB.kp hk (by simp)⟩
  · obtain ⟨a1, a2⟩ := hin i hh
    rw [a2] at hh ⊢
    have hp := h (by omega)
    obtain ⟨⟨A, hA⟩, B, hB⟩ := hp.rows i a1 hh
    obtain ⟨q1, q2, q3, q4, q5, q6, q7⟩ := hp.sep i a1 hh
    have l1 := hA.lt
    have l2 := hB.lt
    exact ⟨q1, q2, q3, by omega, by omega, q6, q7⟩
  · obtain ⟨a1, a2⟩ := hin i hh
    obtain ⟨b1, b2⟩ := hin j hh'
    rw [a2] at hh ⊢
    rw [b2] at hh' ⊢
    exact (h (by omega)).dis i j a1 b1 hne hh hh'

/-- The frame is laid on place i. -/
theorem PMem.laid {lo : Nat} {V : VP} {W : List Nat} {w w' : World} {pb cap i gm gd cb : Nat} {P : Nat → Slot} {p : Slot} (h : PMem lo V W w pb cap P) (hi : i < cap) (hlo : lo ≤ w.heap.size) (hW : ∀ b ∈ W, b < w.heap.size) (hr : Rows2 w (P i) gm gd) (hcb : cb ∈ W) (hsb : V.sb ∈ W)
    (hp1 : p.gm = gm) (hp2 : p.gd = gd) (hF : FRow w' pb cap V.m (updS P i p)) (hM : ∃ A, Row w' gm 72 V.m A) (hD : ∃ B, Row w' gd 3 V.m B) (hk : Kp [pb, cb, V.sb, gm, gd] w w') : PMem lo V W w' pb cap (updS P i p) := by
  have hpl := Row.lt h.row
  have hold : ∀ j, j < cap → j ≠ i → (P j).has = true → (P j).gm ≠ gm ∧ (P j).gm ≠ gd ∧ (P j).gd ≠ gd ∧ (P j).gd ≠ gm := fun j hj hne hh => by
    obtain ⟨⟨A, hA⟩, B, hB⟩ := h.rows j hj hh
    have l1 := hA.lt
    have l2 := hB.lt
    rcases hr with ⟨h1, rfl, rfl⟩ | ⟨h1, h2, h3, h4⟩
    · exact h.dis j i hj hi hne hh h1
    · refine ⟨?_, ?_, ?_, ?_⟩ <;> omega
  have hnew : lo ≤ gm ∧ lo ≤ gd ∧ gm ≠ gd ∧ gm ≠ pb ∧ gd ≠ pb ∧ gm ∉ W ∧ gd ∉ W := by
    rcases hr with ⟨h1, rfl, rfl⟩ | ⟨h1, h2, h3, h4⟩
    · exact h.sep i hi h1
    · refine ⟨by omega, by omega, h4, by omega, by omega, fun hb => ?_, fun hb => ?_⟩
      · have := hW _ hb; omega
      · have := hW _ hb; omega
  refine ⟨hF, h.plo, h.pbW, fun j hj hh => ?_, fun j hj hh => ?_, fun j l hj hl hne hh hh' => ?_⟩
  · by_cases e : j = i
    · subst e
      rw [updS_same, hp1, hp2]
      exact ⟨hM, hD⟩
    · rw [updS_other _ _ e] at hh ⊢
      obtain ⟨⟨A, hA⟩, B, hB⟩ := h.rows j hj hh
      obtain ⟨q1, q2, q3, q4, q5, q6, q7⟩ := h.sep j hj hh
      obtain ⟨o1, o2, o3, o4⟩ := hold j hj e hh
      have n1 : (P j).gm ∉ [pb, cb, V.sb, gm, gd] := by
        simp only [List.mem_cons, List.not_mem_nil, or_false, not_or]
        exact ⟨q4, fun e => q6 (e ▸ hcb), fun e => q6 (e ▸ hsb), o1, o2⟩
      have n2 : (P j).gd ∉ [pb, cb, V.sb, gm, gd] := by
        simp only [List.mem_cons, List.not_mem_nil, or_false, not_or]
        exact ⟨q5, fun e => q7 (e ▸ hcb), fun e => q7 (e ▸ hsb), o4, o3⟩
      exact ⟨⟨A, hA.kp hk n1⟩, B, hB.kp hk n2⟩
  · by_cases e : j = i
    · subst e
      rw [updS_same, hp1, hp2]
      exact hnew
    · rw [updS_other _ _ e] at hh ⊢
      exact h.sep j hj hh
  · by_cases e : j = i
    · subst e
      rw [updS_other _ _ (Ne.symm hne)] at hh' ⊢
      rw [updS_same, hp1, hp2]
      obtain ⟨o1, o2, o3, o4⟩ := hold l hl (Ne.symm hne) hh'
      exact ⟨Ne.symm o1, Ne.symm o4, Ne.symm o3, Ne.symm o2⟩
    · rw [updS_other _ _ e] at hh ⊢
      by_cases e2 : l = i
      · subst e2
        rw [updS_same, hp1, hp2]
        exact hold j hj e hh
      · rw [updS_other _ _ e2] at hh' ⊢
        exact h.dis j l hj hl hne hh hh'

theorem wpList_append_run {P : Program} {w : World} {ops : Array Oper} {rest : List Oper} {o : Oper} {a : Act} {Q : Exit → Act → World → Prop} (hgd : o.guard = none) (s x : Operand) (t : TypeId)
    (ho : o.op = .call { callee := .builtin .append, args := #[s, x], argTypes := #[t, t] }) (v xs : Value) (hs : a.eval s = v) (hx : a.eval x = xs) (v' : Value) (w' : World) (hr : (Builtin.append_ #[t, t] o.type #[v, xs]).run P w = .ok v' w')
    (h : wpList P ops Q rest (a.put o.dst v') w') : wpList P ops Q (o :: rest) a w := by
  refine wpList_plain hgd fun K hK => ?_
  unfold Oper.wp
  simp only [execOp, ho, resolve, invoke, builtin, Sem.run_bind, Sem.run_pure, Result.andThen_ok, List.map_toArray, List.map_cons, List.map_nil, hs, hx, hr]
  exact hK _ _ h

theorem start_mem {lo : Nat} {V : VP} {W : List Nat} (G : VG V) (w : World) (hV : VerAt lo w V) (pb cap i x cb sg : Nat) (P : Nat → Slot) (cf st : Nat → Nat) (F : Nat → Value) (hi : i < cap) (hlo : lo ≤ w.heap.size) (hW : ∀ b ∈ W, b < w.heap.size) (hcW : cb ∈ W) (hsW : V.sb ∈ W) (hcb : lo ≤ cb) (hcs : cb ≠ V.sb) (hsg : sg ≠ cb) (hsp : sg ≠ pb)
    (hst : ∀ j, j < V.m → st j < V.s) (hP : PMem lo V W w pb cap P) (hS : DRow w sg V.m st) (hC : DRow w cb V.n cf) (hs : Row w V.sb 3 V.n F) :
    Calls Tryd.prog 29 #[.pointer (some ⟨V.vb, 0, none⟩), .pointer (some ⟨pb, i * 5, none⟩), .int .i64 x, .slice (some ⟨sg, 0, none⟩) V.m V.m, .slice (some ⟨cb, 0, none⟩) V.n V.n] w fun e w' => e = .returned (.tuple #[]) ∧ ∃ gm gd M d cf',
      PMem lo V W w' pb cap (updS P i ⟨x, true, gm, gd, true, 0⟩) ∧ MRow w' gm V.m M ∧ (∀ j, j < V.m → BitsOf (M j) (Can V st (V.s ^ V.ml) j)) ∧ DRow w' gd V.m d ∧ (∀ j, j < V.m → Can V st (V.s ^ V.ml) j (d j) ∧ ∀ y, Can V st (V.s ^ V.ml) j y → d j ≤ y) ∧ DRow w' cb V.n cf' ∧ (∃ F', Row w' V.sb 3 V.n F') ∧ Kp [pb, cb, V.sb, gm, gd] w w' := by
  refine (start_calls G w hV pb cap i x cb sg P cf st F hi hlo hP.plo hcb hsg hsp (fun e => hP.pbW (e ▸ hcW)) hcs (fun e => hP.pbW (e ▸ hsW)) hst hP.row hS hC hs (fun hh => ?_)).mono ?_
  · obtain ⟨q1, q2, q3, q4, q5, q6, q7⟩ := hP.sep i hi hh
    obtain ⟨hA, hB⟩ := hP.rows i hi hh
    exact ⟨q1, q2, q3, q4, q5, fun e => q6 (e ▸ hcW), fun e => q7 (e ▸ hcW), fun e => q6 (e ▸ hsW), fun e => q7 (e ▸ hsW), hA, hB⟩
  · rintro e w' ⟨rfl, gm, gd, M, d, cf', hrw, hF, hM, hB, hD, hd, hc, hs', hk⟩
    exact ⟨rfl, gm, gd, M, d, cf', hP.laid hi hlo hW hrw hcW hsW rfl rfl hF ⟨_, hM⟩ ⟨_, hD⟩ hk, hM, hB, hD, hd, hc, hs', hk⟩

set_option maxHeartbeats 3200000 in
set_option maxRecDepth 100000 in
theorem enter_calls {lo : Nat} {V : VP} {W : List Nat} (G : VG V) (w : World) (hV : VerAt lo w V) (pb len cap x cb sg : Nat) (P : Nat → Slot) (cf st : Nat → Nat) (F : Nat → Value) (hlc : len ≤ cap) (hl : len ≤ 1024) (hlo : lo ≤ w.heap.size) (hW : ∀ b ∈ W, b < w.heap.size) (hcW : cb ∈ W) (hsW : V.sb ∈ W) (hcb : lo ≤ cb) (hcs : cb ≠ V.sb) (hsg : sg ≠ cb) (hsp : 0 < cap → sg ≠ pb)
    (hst : ∀ j, j < V.m → st j < V.s) (hP : 0 < cap → PMem lo V W w pb cap P) (hS : DRow w sg V.m st) (hC : DRow w cb V.n cf) (hs : Row w V.sb 3 V.n F) :
    Calls Tryd.prog 24 #[.pointer (some ⟨V.vb, 0, none⟩), pathVal pb len cap, .int .i64 x, .slice (some ⟨sg, 0, none⟩) V.m V.m, .slice (some ⟨cb, 0, none⟩) V.n V.n] w fun e w' => ∃ pb' cap' P' gm gd M d cf',
      e = .returned (.slice (some ⟨pb', 0, none⟩) (len + 1) cap') ∧ len < cap' ∧ PMem lo V W w' pb' cap' P' ∧ (∀ j, j < len → P' j = P j) ∧ P' len = ⟨x, true, gm, gd, true, 0⟩ ∧
      MRow w' gm V.m M ∧ (∀ j, j < V.m → BitsOf (M j) (Can V st (V.s ^ V.ml) j)) ∧ DRow w' gd V.m d ∧ (∀ j, j < V.m → Can V st (V.s ^ V.ml) j (d j) ∧ ∀ y, Can V st (V.s ^ V.ml) j y → d j ≤ y) ∧ DRow w' cb V.n cf' ∧ (∃ F', Row w' V.sb 3 V.n F') ∧ Kp [pb', cb, V.sb, gm, gd] w w' := by
  have HV := hid hV
  have HP := hid hP
  have HS := hid hS
  have HC := hid hC
  have Hs := hid hs
  have HST := hid hst
  have HW := hid hW
  have HSP := hid hsp
  clear hV hP hS hC hs hst hW hsp
  by_cases hlt : len < cap
  · have hpv : pathVal pb len cap = .slice (some ⟨pb, 0, none⟩) len cap := by unfold pathVal; rw [if_neg (by omega)]
    rw [hpv]
    clear hpv
    go_enter Tryd.func24, Tryd.ntmps24
    go_wp2_with fail
    refine (start_mem G w HV.out pb cap len x cb sg P cf st F hlt hlo HW.out hcW hsW hcb hcs hsg (HSP.out (by omega)) HST.out (HP.out (by omega)) HS.out HC.out Hs.out).mono ?_
    rintro e w' ⟨rfl, gm, gd, M, d, cf', hp, hM, hB, hD, hd, hc, hs', hk⟩
    have H := hid (And.intro hp (And.intro hM (And.intro hB (And.intro hD (And.intro hd (And.intro hc (And.intro hs' hk)))))))
    clear hp hM hB hD hd hc hs' hk
    go_wp2
    go_ret
    obtain ⟨hp, hM, hB, hD, hd, hc, hs', hk⟩ := H.out
    exact ⟨pb, cap, _, gm, gd, M, d, cf', rfl, hlt, hp, fun j hj => updS_other _ _ (by omega), updS_same _ _ _, hM, hB, hD, hd, hc, hs', hk⟩
  · obtain rfl : cap = len := by omega
    have hz : ∀ k, k < 5 → (w.alloc (.cells #[.int .i64 0, .slice none 0 0, .slice none 0 0, .bool false, .int .i64 0] 66)).cell? ⟨w.heap.size, k, none⟩ = some (frCell V.m zSlot k) := fun k hk => by
      have e : (#[Value.int .i64 0, .slice none 0 0, .slice none 0 0, .bool false, .int .i64 0] : Array Value)[k]? = some (frCell V.m zSlot k) := by
        have h : k = 0 ∨ k = 1 ∨ k = 2 ∨ k = 3 ∨ k = 4 := by omega
        rcases h with rfl | rfl | rfl | rfl | rfl <;> rfl
      exact (World.cell?_alloc_at _ _ _ _ rfl).trans e
    obtain ⟨cap', Z, hc', HZ, hrun⟩ := grow_run (w.alloc (.cells #[.int .i64 0, .slice none 0 0, .slice none 0 0, .bool false, .int .i64 0] 66)) pb cap V.m w.heap.size P hl (fun h => (HP.out h).row.alloc _) hz
    have hgr := PMem.grow (o := .cells #[.int .i64 0, .slice none 0 0, .slice none 0 0, .bool false, .int .i64 0] 66) HP.out hlo HW.out HZ rfl
    have HM := hid hgr.1
    have HK := hid hgr.2
    obtain ⟨pv, len', hpv⟩ : ∃ pv len', pathVal pb cap cap = .slice pv len' len' ∧ len' = cap := by
      unfold pathVal
      by_cases h0 : cap = 0
      · rw [if_pos h0]; exact ⟨none, 0, rfl, h0.symm⟩
      · rw [if_neg h0]; exact ⟨_, cap, rfl, rfl⟩
    obtain ⟨hpv, rfl⟩ := hpv
    rw [hpv] at hrun
    rw [hpv]
    clear hpv hz hgr HZ
    go_enter Tryd.func24, Tryd.ntmps24
    go_wp2_with (at_builtin; refine wpList_append_run rfl (.tmp 21) (.tmp 23) 61 rfl _ _ rfl rfl _ _ (hrun _) ?_)
    have hsz := HK.out.size
    have hsgl := HS.out.lt
    refine (start_mem G _ (HV.out.kp HK.out (by simp)) (w.heap.size + 1) cap' len' x cb sg _ cf st F hc' (Nat.le_trans hlo hsz) (fun b hb => Nat.lt_of_lt_of_le (HW.out b hb) hsz) hcW hsW hcb hcs hsg (by omega) HST.out HM.out (HS.out.kp HK.out (by simp)) (HC.out.kp HK.out (by simp)) (Hs.out.kp HK.out (by simp))).mono ?_
    rintro e w' ⟨rfl, gm, gd, M, d, cf', hp, hM, hB, hD, hd, hc, hs', hk⟩
    have hk' := (HK.out.weaken (S' := [w.heap.size + 1, cb, V.sb, gm, gd]) (by simp)).trans hk (by simp)
    have H := hid (And.intro hp (And.intro hM (And.intro hB (And.intro hD (And.intro hd (And.intro hc (And.intro hs' hk')))))))
    clear hp hM hB hD hd hc hs' hk hk' hsz hrun
    go_wp2
    go_ret
    obtain ⟨hp, hM, hB, hD, hd, hc, hs', hk⟩ := H.out
    refine ⟨w.heap.size + 1, cap', _, gm, gd, M, d, cf', rfl, hc', hp, fun j hj => ?_, updS_same _ _ _, hM, hB, hD, hd, hc, hs', hk⟩
    rw [updS_other _ _ (by omega)]
    simp [hj]
end Go.Proofs.Qxb6615056aDoor

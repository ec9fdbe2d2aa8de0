/-
  The search's steps: a frame entered, the top doomed, the top's next step.
-/
import Derived.Test.Qxb6615056aDoorDinv
namespace Go.Proofs.Qxb6615056aDoor
open Go.RowKit Go.Tocsin

section
variable {lo : Nat} {V : VP} {w0 w w' : World} {cb db sg K : Nat} {d : Nat → Nat} {len cap pb : Nat} {P : Nat → Slot} {fr : Nat → Fr} {D : Nat → Int}

theorem DInv.entered (G : VG V) (h : DInv lo V w0 w cb db sg K d len cap pb P fr D) (s : DSep lo V w0 cb db sg) {w1 : World} {pb' cap' gm gd x : Nat} {P' : Nat → Slot} {st M dd cf' : Nat → Nat} {K' : Nat} (hx : x < V.C) (hDx : D x = -1) (hst : ∀ j, j < V.m → st j < V.s) (hix : ix V.s st V.m = x)
    (hchain : ∀ c, Chain (⟨x, c, true, 0⟩ :: pathL fr len)) (hnd : ¬ Doomed D (pathL fr len)) (hlc : len < cap') (hmem : PMem lo V [cb, V.sb, db, sg] w1 pb' cap' P') (hP : ∀ j, j < len → P' j = P j) (hPl : P' len = ⟨x, true, gm, gd, true, 0⟩)
    (hM : MRow w1 gm V.m M) (hB : ∀ j, j < V.m → BitsOf (M j) (Can V st (V.s ^ V.ml) j)) (hD : DRow w1 gd V.m dd) (hd : ∀ j, j < V.m → Can V st (V.s ^ V.ml) j (dd j) ∧ ∀ y, Can V st (V.s ^ V.ml) j y → dd j ≤ y) (hcf : DRow w1 cb V.n cf') (hs : ∃ F', Row w1 V.sb 3 V.n F') (hk : Kp [pb', cb, V.sb, gm, gd] w w1)
    (hk2 : Kp [db] w1 w') (hdep : Row w' db 3 V.C (fun j => .int .i64 (upd D x (-2) j))) (hK : ∀ i, i < K' → i < V.C → i = x ∨ i < K) :
    ∃ fr', DInv lo V w0 w' cb db sg K' d (len + 1) cap' pb' P' fr' (upd D x (-2)) ∧ mu V.C (upd D x (-2)) (pathL fr' (len + 1)) < mu V.C D (pathL fr len) := by
  have e : ∀ j, j < V.m → st j = dg V.s V.m x j := fun j hj => by rw [← hix, dg_ix G.s1 hst j hj]
  have ec : ∀ j, Can V st (V.s ^ V.ml) j = Can V (dg V.s V.m x) (V.s ^ V.ml) j := fun j => can_congr G e _ j
  have hd1 : ∀ j, j < V.m → Can V (dg V.s V.m x) (V.s ^ V.ml) j (dd j) := fun j hj => by rw [← ec j]; exact (hd j hj).1
  have hss := ss_of G hd1
  have hmin : ∀ k, SS V x k → ix V.s dd V.m ≤ k := fun k hk' => by
    obtain ⟨p1, p2⟩ := ss_prod G hk'
    have := lo_first (lo := dd) (fun j hj y hy => (hd j hj).2 y (by rw [ec j]; exact hy)) p1
    omega
  refine ⟨updF fr len ⟨x, ix V.s dd V.m, true, 0⟩, h.push s hlc hmem hP hPl hM (fun j hj => by rw [← ec j]; exact hB j hj) hD hd1 rfl hcf hs hk hk2 hdep (h.inv.push hx hDx _ hss hss.1 hmin (hchain _) hnd) hK, ?_⟩
  rw [pathL_updF]
  exact mu_enter _ hx hDx hss.1

theorem DInv.doomed (h : DInv lo V w0 w cb db sg K d (len + 1) cap pb P fr D) (s : DSep lo V w0 cb db sg) (hm : (fr len).more = true) (hd : D (fr len).cur = -2 ∨ D (fr len).cur = -3) (hk : Kp [pb] w w') (hF : FRow w' pb cap V.m (updS P len { P len with dep := -3, more := false })) :
    ∃ P' fr', DInv lo V w0 w' cb db sg K d (len + 1) cap pb P' fr' D ∧ mu V.C D (pathL fr' (len + 1)) < mu V.C D (pathL fr (len + 1)) := by
  have hlc := h.lc
  have hmem := h.mem (by omega)
  have ha := h.act len (by omega)
  obtain ⟨a1, a2, a3, a4, ⟨M, hM, hB⟩, a6⟩ := ha
  obtain ⟨q1, q2, q3, q4, q5, q6, q7⟩ := hmem.sep len (by omega) a2
  obtain ⟨_, B, hBr⟩ := hmem.rows len (by omega) a2
  have hin : Inv V.C (SS V) (goodC V) D (fr len :: pathL fr len) := h.inv
  have hi := hin.doom hm hd
  refine ⟨_, _, h.turn s { fr len with more := false, dep := -3 } { P len with dep := -3, more := false } rfl rfl (hk.weaken (by simp)) hF ⟨B, hBr.kp hk (by simpa using q5)⟩ ⟨a1, a2, rfl, rfl, ⟨M, hM.kp hk (by simpa using q4), hB⟩, fun e => by cases e⟩ hi, ?_⟩
  rw [pathL_updF]
  exact mu_doom hm

theorem DInv.adv (G : VG V) (h : DInv lo V w0 w cb db sg K d (len + 1) cap pb P fr D) (s : DSep lo V w0 cb db sg) (hm : (fr len).more = true) (hd : 0 ≤ D (fr len).cur) {β : Bool} {dd d' : Nat → Nat} (hdd : ix V.s dd V.m = (fr len).cur)
    (h1 : β = true → Prod' V.s V.m (fun j b => Can V (dg V.s V.m (fr len).idx) (V.s ^ V.ml) j b) d' ∧ IsNext V.s V.m (fun j b => Can V (dg V.s V.m (fr len).idx) (V.s ^ V.ml) j b) dd d') (h2 : β = false → ∀ e, Prod' V.s V.m (fun j b => Can V (dg V.s V.m (fr len).idx) (V.s ^ V.ml) j b) e → ix V.s e V.m ≤ ix V.s dd V.m)
    (hk : Kp [pb, (P len).gd] w w') (hF : FRow w' pb cap V.m (updS P len { P len with dep := max (fr len).dep (D (fr len).cur + 1), more := β })) (hD' : DRow w' (P len).gd V.m d') :
    ∃ P' fr', DInv lo V w0 w' cb db sg K d (len + 1) cap pb P' fr' D ∧ mu V.C D (pathL fr' (len + 1)) < mu V.C D (pathL fr (len + 1)) := by
  have hlc := h.lc
  have hmem := h.mem (by omega)
  have ha := h.act len (by omega)
  obtain ⟨a1, a2, a3, a4, ⟨M, hM, hB⟩, a6⟩ := ha
  obtain ⟨q1, q2, q3, q4, q5, q6, q7⟩ := hmem.sep len (by omega) a2
  have hin : Inv V.C (SS V) (goodC V) D (fr len :: pathL fr len) := h.inv
  have hM' : MRow w' (P len).gm V.m M := hM.kp hk (by simp; exact ⟨q4, q3⟩)
  cases β with
  | true =>
    obtain ⟨p1, p2, p3⟩ := h1 rfl
    have hss : SS V (fr len).idx (ix V.s d' V.m) := ss_of G (fun j hj => (p1 j hj).2)
    have hlt : (fr len).cur < ix V.s d' V.m := by rw [← hdd]; exact p2
    have hi := hin.next hm hd (ix V.s d' V.m) hss hss.1 hlt (fun k hk' hl => by
      obtain ⟨r1, r2⟩ := ss_prod G hk'
      have := p3 _ r1 (by rw [r2, hdd]; exact hl)
      omega)
    refine ⟨_, _, h.turn s { fr len with cur := ix V.s d' V.m, dep := max (fr len).dep (D (fr len).cur + 1) } { P len with dep := max (fr len).dep (D (fr len).cur + 1), more := true } rfl rfl hk hF ⟨_, hD'⟩ ⟨a1, a2, hm.symm, rfl, ⟨M, hM', hB⟩, fun _ => ⟨d', hD', fun j hj => (p1 j hj).2, rfl⟩⟩ hi, ?_⟩
    rw [pathL_updF]
    exact mu_next _ _ hm hlt hss.1
  | false =>
    have hi := hin.last hm hd 0 (fun k hk' => by
      obtain ⟨r1, r2⟩ := ss_prod G hk'
      have := h2 rfl _ r1
      omega)
    refine ⟨_, _, h.turn s ⟨(fr len).idx, 0, false, max (fr len).dep (D (fr len).cur + 1)⟩ { P len with dep := max (fr len).dep (D (fr len).cur + 1), more := false } rfl rfl hk hF ⟨_, hD'⟩ ⟨a1, a2, rfl, rfl, ⟨M, hM', hB⟩, fun e => by cases e⟩ hi, ?_⟩
    rw [pathL_updF]
    exact mu_last _ _ hm
end
end Go.Proofs.Qxb6615056aDoor

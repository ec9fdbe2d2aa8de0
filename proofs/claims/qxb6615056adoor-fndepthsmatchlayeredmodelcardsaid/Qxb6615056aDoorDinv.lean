/-
  The search's state in memory, and what each of its steps makes of it.
-/
import Derived.Test.Qxb6615056aDoorEnter
import Derived.Test.Qxb6615056aDoorGood
import Derived.Test.Qxb6615056aDoorDepth
namespace Go.Tocsin
/-! ### Plain -/
theorem Inv.reach {C : Nat} {S : Nat → Nat → Prop} {good : Nat → Bool} {D : Nat → Int} {p : List Fr} (h : Inv C S good D p) (hS : ∀ i k, S i k → k < C) : ∀ (d : Nat) (i : Nat), i < C → D i = d → ∀ v, v ≤ d → ∃ x, x < C ∧ D x = v
  | 0, i, hi, e, v, hv => ⟨i, hi, by rw [e]; omega⟩
  | d + 1, i, hi, e, v, hv => by
    by_cases hv' : v = d + 1
    · exact ⟨i, hi, by rw [e, hv']⟩
    · obtain ⟨_, k, hk, _, hk2⟩ := h.fin i hi (by omega)
      exact Inv.reach h hS d k (hS i k hk) (by omega) v (by omega)
theorem Inv.bound {C : Nat} {S : Nat → Nat → Prop} {good : Nat → Bool} {D : Nat → Int} {p : List Fr} (h : Inv C S good D p) (hS : ∀ i k, S i k → k < C) {i : Nat} (hi : i < C) : -3 ≤ D i ∧ D i < C := by
  have hv := h.val i hi
  by_cases h0 : D i < 0
  · omega
  · obtain ⟨d, hd⟩ : ∃ d : Nat, D i = d := ⟨(D i).toNat, by omega⟩
    have hr := h.reach hS d i hi hd
    have hf : ∃ f : Nat → Nat, ∀ v, v ≤ d → f v < C ∧ D (f v) = v := by
      refine ⟨fun v => if hv : v ≤ d then Classical.choose (hr v hv) else 0, fun v hv => ?_⟩
      simp only [hv, dif_pos]
      exact Classical.choose_spec (hr v hv)
    obtain ⟨f, hf⟩ := hf
    have := pigeon C d f (fun v hv => (hf v hv).1) (fun u v hu hv e => by
      have h1 := (hf u hu).2
      have h2 := (hf v hv).2
      rw [e, h2] at h1
      omega)
    omega
theorem Inv.dep {C : Nat} {S : Nat → Nat → Prop} {good : Nat → Bool} {D : Nat → Int} {p : List Fr} (h : Inv C S good D p) (hS : ∀ i k, S i k → k < C) {f : Fr} (hf : f ∈ p) (hm : f.more = true) : 0 ≤ f.dep ∧ f.dep ≤ C := by
  obtain ⟨_, _, f3, _⟩ := h.frames f hf
  obtain ⟨_, _, g3, _, g5⟩ := f3 hm
  refine ⟨g3, ?_⟩
  by_cases h0 : 0 < f.dep
  · obtain ⟨k, _, hk, _, hk3⟩ := g5 h0
    have := h.bound hS (hS _ _ hk)
    omega
  · omega

end Go.Tocsin
namespace Go.Proofs.Qxb6615056aDoor
open Go.RowKit Go.Tocsin

/-- The path, the top first. -/
def pathL (fr : Nat → Fr) : Nat → List Fr
  | 0 => []
  | k + 1 => fr k :: pathL fr k
theorem pathL_congr {fr fr' : Nat → Fr} : ∀ {k : Nat}, (∀ i, i < k → fr i = fr' i) → pathL fr k = pathL fr' k
  | 0, _ => rfl
  | k + 1, h => by simp only [pathL]; rw [h k (by omega), pathL_congr (fun i hi => h i (by omega))]
theorem mem_pathL {fr : Nat → Fr} : ∀ {k i : Nat}, i < k → fr i ∈ pathL fr k
  | 0, i, h => by omega
  | k + 1, i, h => by
    by_cases e : i = k
    · subst e; simp [pathL]
    · simp only [pathL]; exact List.mem_cons_of_mem _ (mem_pathL (by omega))
theorem pathL_inj {fr : Nat → Fr} : ∀ {k : Nat}, ((pathL fr k).map Fr.idx).Nodup → ∀ i j, i < k → j < k → (fr i).idx = (fr j).idx → i = j
  | 0, _, i, j, hi, _, _ => by omega
  | k + 1, h, i, j, hi, hj, e => by
    simp only [pathL, List.map_cons, List.nodup_cons] at h
    by_cases h1 : i = k
    · by_cases h2 : j = k
      · omega
      · subst h1
        exact absurd (List.mem_map.2 ⟨fr j, mem_pathL (by omega), e.symm⟩) h.1
    · by_cases h2 : j = k
      · subst h2
        exact absurd (List.mem_map.2 ⟨fr i, mem_pathL (by omega), e⟩) h.1
      · exact pathL_inj h.2 i j (by omega) (by omega) e
def updF (fr : Nat → Fr) (i : Nat) (f : Fr) : Nat → Fr := fun j => if j = i then f else fr j
theorem updF_same (fr : Nat → Fr) (i : Nat) (f : Fr) : updF fr i f i = f := by simp [updF]
theorem updF_other (fr : Nat → Fr) {i j : Nat} (f : Fr) (h : j ≠ i) : updF fr i f j = fr j := by simp [updF, h]
theorem pathL_updF (fr : Nat → Fr) (i : Nat) (f : Fr) : pathL (updF fr i f) (i + 1) = f :: pathL fr i := by
  simp only [pathL, updF_same]
  rw [pathL_congr (fr' := fr) (fun j hj => updF_other fr f (by omega))]

/-! ### Configurations -/
theorem see_congr {V : VP} (G : VG V) {st st' : Nat → Nat} (h : ∀ j, j < V.m → st j = st' j) (t : Nat) {u : Nat} (hu : u < V.n) : see V st t u = see V st' t u := by
  unfold see
  by_cases e : V.fb u = true
  · rw [if_pos e, if_pos e]
  · have e' : V.fb u = false := by simpa using e
    have := cw_lt hu e'
    rw [← G.hm] at this
    rw [if_neg e, if_neg e, h _ this]
theorem can_congr {V : VP} (G : VG V) {st st' : Nat → Nat} (h : ∀ j, j < V.m → st j = st' j) (T j : Nat) : Can V st T j = Can V st' T j := by
  have e : ∀ t, tgt V st t j = tgt V st' t j := fun t => by
    unfold tgt
    rw [ix_congr (fun u hu => see_congr G h t hu)]
  funext b
  unfold Can
  simp only [e]
theorem good_congr {V : VP} (G : VG V) {st st' : Nat → Nat} (h : ∀ j, j < V.m → st j = st' j) : goodD V st = goodD V st' := by
  have h0 := h 0 G.m1
  unfold goodD
  rw [h0]
  congr 1
  apply propext
  constructor
  · rintro ⟨a, b⟩
    exact ⟨fun j hj => by rw [← h j hj]; exact a j hj, b⟩
  · rintro ⟨a, b⟩
    exact ⟨fun j hj => by rw [h j hj]; exact a j hj, b⟩

/-- Configuration i can step to configuration k. -/
def SS (V : VP) (i k : Nat) : Prop := k < V.C ∧ ∀ j, j < V.m → Can V (dg V.s V.m i) (V.s ^ V.ml) j (dg V.s V.m k j)
def goodC (V : VP) (i : Nat) : Bool := goodD V (dg V.s V.m i)
theorem SS.lt {V : VP} (i k : Nat) (h : SS V i k) : k < V.C := h.1

theorem can_lt {V : VP} (G : VG V) {st : Nat → Nat} (hst : ∀ j, j < V.m → st j < V.s) {T j b : Nat} (hj : j < V.m) (h : Can V st T j b) : b < V.s := by
  obtain ⟨t, _, rfl⟩ := h
  exact (tgt_lt G hst t hj).2
theorem dgs {V : VP} (G : VG V) (i : Nat) : ∀ j, j < V.m → dg V.s V.m i j < V.s := fun _ _ => dg_lt G.s1 _ _ _
/-- Digits in the masks name a step. -/
theorem ss_of {V : VP} (G : VG V) {i : Nat} {d : Nat → Nat} (h : ∀ j, j < V.m → Can V (dg V.s V.m i) (V.s ^ V.ml) j (d j)) : SS V i (ix V.s d V.m) := by
  have hd : ∀ j, j < V.m → d j < V.s := fun j hj => can_lt G (dgs G i) hj (h j hj)
  refine ⟨by rw [G.hC]; exact ix_lt hd, fun j hj => ?_⟩
  rw [dg_ix G.s1 hd j hj]
  exact h j hj
theorem ss_prod {V : VP} (G : VG V) {i k : Nat} (h : SS V i k) : Prod' V.s V.m (fun j b => Can V (dg V.s V.m i) (V.s ^ V.ml) j b) (dg V.s V.m k) ∧ ix V.s (dg V.s V.m k) V.m = k :=
  ⟨fun j hj => ⟨dgs G k j hj, h.2 j hj⟩, ix_dg G.s1 (by rw [← G.hC]; exact h.1)⟩

/-! ### The state -/
/-- A frame of the path as it lies in memory. -/
def ActF (w : World) (V : VP) (f : Fr) (p : Slot) : Prop :=
  p.ix = f.idx ∧ p.has = true ∧ p.more = f.more ∧ p.dep = f.dep ∧ (∃ M, MRow w p.gm V.m M ∧ ∀ j, j < V.m → BitsOf (M j) (Can V (dg V.s V.m f.idx) (V.s ^ V.ml) j)) ∧
  (f.more = true → ∃ d, DRow w p.gd V.m d ∧ (∀ j, j < V.m → Can V (dg V.s V.m f.idx) (V.s ^ V.ml) j (d j)) ∧ ix V.s d V.m = f.cur)
theorem ActF.kp {w w' : World} {V : VP} {f : Fr} {p : Slot} {S : List Nat} (h : ActF w V f p) (k : Kp S w w') (h1 : p.gm ∉ S) (h2 : p.gd ∉ S) : ActF w' V f p := by
  obtain ⟨a, b, c, d, ⟨M, hM, hB⟩, e⟩ := h
  refine ⟨a, b, c, d, ⟨M, hM.kp k h1, hB⟩, fun hm => ?_⟩
  obtain ⟨x, hx, r⟩ := e hm
  exact ⟨x, hx.kp k h2, r⟩

structure DInv (lo : Nat) (V : VP) (w0 w : World) (cb db sg K : Nat) (d : Nat → Nat) (len cap pb : Nat) (P : Nat → Slot) (fr : Nat → Fr) (D : Nat → Int) : Prop where
  ver : VerAt lo w V
  lc : len ≤ cap
  mem : 0 < cap → PMem lo V [cb, V.sb, db, sg] w pb cap P
  act : ∀ i, i < len → ActF w V (fr i) (P i)
  inv : Inv V.C (SS V) (goodC V) D (pathL fr len)
  done : ∀ i, i < K → i < V.C → D i ≠ -1
  dep : Row w db 3 V.C (fun i => .int .i64 (D i))
  sts : DRow w sg V.m d
  cfg : ∃ cf, DRow w cb V.n cf
  sen : ∃ F, Row w V.sb 3 V.n F
  kp : Kp [V.sb] w0 w

structure DSep (lo : Nat) (V : VP) (w0 : World) (cb db sg : Nat) : Prop where
  l0 : lo = w0.heap.size
  s : V.sb < lo
  c : lo ≤ cb
  d : lo ≤ db
  g : lo ≤ sg
  cd : cb ≠ db
  cg : cb ≠ sg
  dg : db ≠ sg

section
variable {lo : Nat} {V : VP} {w0 w w' : World} {cb db sg K : Nat} {d : Nat → Nat} {len cap pb : Nat} {P : Nat → Slot} {fr : Nat → Fr} {D : Nat → Int}

theorem DInv.W (h : DInv lo V w0 w cb db sg K d len cap pb P fr D) : ∀ b ∈ [cb, V.sb, db, sg], b < w.heap.size := by
  obtain ⟨cf, hc⟩ := h.cfg
  obtain ⟨F, hs⟩ := h.sen
  have h1 := hc.lt
  have h2 := hs.lt
  have h3 := h.dep.lt
  have h4 := h.sts.lt
  simp
  exact ⟨h1, h2, h3, h4⟩
theorem DInv.wlo (h : DInv lo V w0 w cb db sg K d len cap pb P fr D) (s : DSep lo V w0 cb db sg) : lo ≤ w.heap.size := by rw [s.l0]; exact h.kp.size
theorem DInv.few (h : DInv lo V w0 w cb db sg K d len cap pb P fr D) (G : VG V) : len ≤ 256 := by
  by_cases h0 : len = 0
  · omega
  · have := pigeon V.C (len - 1) (fun v => (fr v).idx) (fun v hv => (h.inv.frames _ (mem_pathL (k := len) (by omega))).1) (fun u v hu hv e => pathL_inj h.inv.nodup u v (by omega) (by omega) e)
    have := G.C2
    omega
theorem DInv.kpo (h : DInv lo V w0 w cb db sg K d len cap pb P fr D) (s : DSep lo V w0 cb db sg) {S : List Nat} (k : Kp S w w') (hS : ∀ b ∈ S, b = V.sb ∨ lo ≤ b) : Kp [V.sb] w0 w' :=
  h.kp.trans k (fun b hb => by rcases hS b hb with e | e; exact .inl (by simp [e]); exact .inr (by rw [← s.l0]; exact e))

/-- The top is done. -/
theorem DInv.pop (h : DInv lo V w0 w cb db sg K d (len + 1) cap pb P fr D) (s : DSep lo V w0 cb db sg) (hm : (fr len).more = false) (hk : Kp [db] w w') (hd : Row w' db 3 V.C (fun j => .int .i64 (upd D (fr len).idx (fr len).dep j))) :
    DInv lo V w0 w' cb db sg K d len cap pb P fr (upd D (fr len).idx (fr len).dep) ∧ mu V.C (upd D (fr len).idx (fr len).dep) (pathL fr len) < mu V.C D (pathL fr (len + 1)) := by
  have hmem := h.mem (by have := h.lc; omega)
  have hin : Inv V.C (SS V) (goodC V) D (fr len :: pathL fr len) := h.inv
  obtain ⟨_, _, _, f4⟩ := hin.frames (fr len) (by simp)
  have hdep : (fr len).dep ≠ -1 := by rcases f4 hm with ⟨e, _⟩ | ⟨e, _⟩ <;> omega
  have hon := hin.onp (fr len) (by simp)
  have n1 : cb ∉ [db] := by simpa using s.cd
  have n2 : sg ∉ [db] := by simpa using Ne.symm s.dg
  have n3 : V.sb ∉ [db] := by have := s.s; have := s.d; simp; omega
  obtain ⟨cf, hc⟩ := h.cfg
  obtain ⟨F, hs⟩ := h.sen
  refine ⟨⟨h.ver.kp hk (by simp; exact .inr s.d), by have := h.lc; omega, fun h0 => (h.mem h0).kp hk (by simp), fun i hi => ?_, hin.pop hm, fun i h1 h2 => ?_, hd, h.sts.kp hk n2, ⟨cf, hc.kp hk n1⟩, ⟨F, hs.kp hk n3⟩, h.kpo s hk (by simp; exact .inr s.d)⟩, mu_pop (by omega) hdep hm⟩
  · have ha := h.act i (by omega)
    obtain ⟨_, _, _, _, _, q6, q7⟩ := hmem.sep i (by have := h.lc; omega) ha.2.1
    exact ha.kp hk (fun e => q6 (by simp at e; simp [e])) (fun e => q7 (by simp at e; simp [e]))
  · by_cases e : i = (fr len).idx
    · subst e; rw [upd_same]; exact hdep
    · rw [upd_other _ e]; exact h.done i h1 h2

/-- The cells of the top frame turn, its rows stay where they are. -/
theorem DInv.turn (h : DInv lo V w0 w cb db sg K d (len + 1) cap pb P fr D) (s : DSep lo V w0 cb db sg) (f : Fr) (p : Slot) (hgm : p.gm = (P len).gm) (hgd : p.gd = (P len).gd) (hk : Kp [pb, (P len).gd] w w') (hF : FRow w' pb cap V.m (updS P len p))
    (hB : ∃ B, Row w' p.gd 3 V.m B) (ha : ActF w' V f p) (hinv : Inv V.C (SS V) (goodC V) D (f :: pathL fr len)) : DInv lo V w0 w' cb db sg K d (len + 1) cap pb (updS P len p) (updF fr len f) D := by
  have hlc := h.lc
  have hmem := h.mem (by omega)
  have hl := h.act len (by omega)
  obtain ⟨q1, q2, q3, q4, q5, q6, q7⟩ := hmem.sep len (by omega) hl.2.1
  have hpW := hmem.pbW
  simp only [List.mem_cons, List.not_mem_nil, or_false, not_or] at q6 q7 hpW
  have n1 : cb ∉ [pb, (P len).gd] := by simp; exact ⟨Ne.symm hpW.1, Ne.symm q7.1⟩
  have n2 : sg ∉ [pb, (P len).gd] := by simp; exact ⟨Ne.symm hpW.2.2.2, Ne.symm q7.2.2.2⟩
  have n3 : V.sb ∉ [pb, (P len).gd] := by simp; exact ⟨Ne.symm hpW.2.1, Ne.symm q7.2.1⟩
  have n4 : db ∉ [pb, (P len).gd] := by simp; exact ⟨Ne.symm hpW.2.2.1, Ne.symm q7.2.2.1⟩
  have hSlo : ∀ b ∈ [pb, (P len).gd], b = V.sb ∨ lo ≤ b := by simp; exact ⟨.inr hmem.plo, .inr q2⟩
  obtain ⟨cf, hc⟩ := h.cfg
  obtain ⟨F, hs⟩ := h.sen
  have hoth : ∀ j, j < cap → j ≠ len → (P j).has = true → (P j).gm ∉ [pb, (P len).gd] ∧ (P j).gd ∉ [pb, (P len).gd] := fun j hj hne hh => by
    obtain ⟨_, _, _, r4, r5, _, _⟩ := hmem.sep j hj hh
    obtain ⟨_, d2, d3, _⟩ := hmem.dis j len hj (by omega) hne hh hl.2.1
    simp
    exact ⟨⟨r4, d2⟩, r5, d3⟩
  refine ⟨h.ver.kp hk hSlo, hlc, fun _ => ⟨hF, hmem.plo, hmem.pbW, fun j hj hh => ?_, fun j hj hh => ?_, fun i j hi hj hne hh hh' => ?_⟩, fun i hi => ?_, ?_, h.done, h.dep.kp hk n4, h.sts.kp hk n2, ⟨cf, hc.kp hk n1⟩, ⟨F, hs.kp hk n3⟩, h.kpo s hk hSlo⟩
  · by_cases e : j = len
    · subst e
      rw [updS_same]
      obtain ⟨_, _, _, _, ⟨M, hM, _⟩, _⟩ := ha
      exact ⟨⟨_, hM⟩, hB⟩
    · rw [updS_other _ _ e] at hh ⊢
      obtain ⟨⟨A, hA⟩, B, hB'⟩ := hmem.rows j hj hh
      obtain ⟨o1, o2⟩ := hoth j hj e hh
      exact ⟨⟨A, hA.kp hk o1⟩, B, hB'.kp hk o2⟩
  · by_cases e : j = len
    · subst e
      rw [updS_same, hgm, hgd]
      exact hmem.sep j hj hl.2.1
    · rw [updS_other _ _ e] at hh ⊢
      exact hmem.sep j hj hh
  · by_cases e : i = len
    · subst e
      rw [updS_other _ _ (Ne.symm hne)] at hh' ⊢
      rw [updS_same, hgm, hgd]
      exact hmem.dis i j hi hj hne hl.2.1 hh'
    · rw [updS_other _ _ e] at hh ⊢
      by_cases e2 : j = len
      · subst e2
        rw [updS_same, hgm, hgd]
        exact hmem.dis i j hi hj hne hh hl.2.1
      · rw [updS_other _ _ e2] at hh' ⊢
        exact hmem.dis i j hi hj hne hh hh'
  · by_cases e : i = len
    · subst e
      rw [updS_same, updF_same]
      exact ha
    · rw [updS_other _ _ e, updF_other _ _ e]
      have hx := h.act i hi
      obtain ⟨o1, o2⟩ := hoth i (by omega) e hx.2.1
      exact hx.kp hk o1 o2
  · rw [pathL_updF]; exact hinv

/-- A frame more. -/
theorem DInv.push (h : DInv lo V w0 w cb db sg K d len cap pb P fr D) (s : DSep lo V w0 cb db sg) {w1 : World} {pb' cap' gm gd x : Nat} {P' : Nat → Slot} {M dd cf' : Nat → Nat} {c : Nat} {K' : Nat} (hlc : len < cap') (hmem : PMem lo V [cb, V.sb, db, sg] w1 pb' cap' P') (hP : ∀ j, j < len → P' j = P j) (hPl : P' len = ⟨x, true, gm, gd, true, 0⟩)
    (hM : MRow w1 gm V.m M) (hB : ∀ j, j < V.m → BitsOf (M j) (Can V (dg V.s V.m x) (V.s ^ V.ml) j)) (hD : DRow w1 gd V.m dd) (hd : ∀ j, j < V.m → Can V (dg V.s V.m x) (V.s ^ V.ml) j (dd j)) (hc : ix V.s dd V.m = c) (hcf : DRow w1 cb V.n cf') (hs : ∃ F', Row w1 V.sb 3 V.n F') (hk : Kp [pb', cb, V.sb, gm, gd] w w1)
    (hk2 : Kp [db] w1 w') (hdep : Row w' db 3 V.C (fun j => .int .i64 (upd D x (-2) j))) (hinv : Inv V.C (SS V) (goodC V) (upd D x (-2)) (⟨x, c, true, 0⟩ :: pathL fr len)) (hK : ∀ i, i < K' → i < V.C → i = x ∨ i < K) :
    DInv lo V w0 w' cb db sg K' d (len + 1) cap' pb' P' (updF fr len ⟨x, c, true, 0⟩) (upd D x (-2)) := by
  have hlh : (P' len).has = true := by rw [hPl]
  obtain ⟨q1, q2, q3, q4, q5, q6, q7⟩ := hmem.sep len hlc hlh
  rw [hPl] at q1 q2 q3 q4 q5 q6 q7
  have hpW := hmem.pbW
  simp only [List.mem_cons, List.not_mem_nil, or_false, not_or] at q6 q7 hpW
  have n1 : cb ∉ [db] := by simpa using s.cd
  have n2 : sg ∉ [db] := by simpa using Ne.symm s.dg
  have n3 : V.sb ∉ [db] := by have := s.s; have := s.d; simp; omega
  have m2 : sg ∉ [pb', cb, V.sb, gm, gd] := by have := s.s; have := s.g; simp; exact ⟨Ne.symm hpW.2.2.2, Ne.symm s.cg, by omega, Ne.symm q6.2.2.2, Ne.symm q7.2.2.2⟩
  have hSlo : ∀ b ∈ [pb', cb, V.sb, gm, gd], b = V.sb ∨ lo ≤ b := by simp; exact ⟨.inr hmem.plo, .inr s.c, .inr q1, .inr q2⟩
  obtain ⟨F', hs'⟩ := hs
  have hv1 := h.ver.kp hk hSlo
  have hko := h.kpo s hk hSlo
  refine ⟨hv1.kp hk2 (by simp; exact .inr s.d), by omega, fun _ => hmem.kp hk2 (by simp), fun i hi => ?_, by rw [pathL_updF]; exact hinv, fun i h1 h2 => ?_, hdep, (h.sts.kp hk m2).kp hk2 n2, ⟨cf', hcf.kp hk2 n1⟩, ⟨F', hs'.kp hk2 n3⟩, hko.trans hk2 (by simp; have := s.d; have := s.l0; omega)⟩
  · by_cases e : i = len
    · subst e
      rw [hPl, updF_same]
      refine ⟨rfl, rfl, rfl, rfl, ⟨M, hM.kp hk2 (by simpa using q6.2.2.1), hB⟩, fun _ => ⟨dd, hD.kp hk2 (by simpa using q7.2.2.1), hd, hc⟩⟩
    · have hil : i < len := by omega
      rw [hP i hil, updF_other _ _ e]
      have ha := h.act i hil
      have hh : (P' i).has = true := by rw [hP i hil]; exact ha.2.1
      obtain ⟨_, _, _, r4, r5, r6, r7⟩ := hmem.sep i (by omega) hh
      obtain ⟨d1, d2, d3, d4⟩ := hmem.dis i len (by omega) hlc e hh hlh
      rw [hPl] at d1 d2 d3 d4
      rw [hP i hil] at r4 r5 r6 r7 d1 d2 d3 d4
      simp only [List.mem_cons, List.not_mem_nil, or_false, not_or] at r6 r7
      refine (ha.kp hk ?_ ?_).kp hk2 ?_ ?_
      · simp; exact ⟨r4, r6.1, r6.2.1, d1, d2⟩
      · simp; exact ⟨r5, r7.1, r7.2.1, d4, d3⟩
      · simp; exact r6.2.2.1
      · simp; exact r7.2.2.1
  · by_cases e : i = x
    · rw [e, upd_same]; omega
    · rw [upd_other _ e]
      rcases hK i h1 h2 with e2 | e2
      · exact absurd e2 e
      · exact h.done i e2 h2
end
end Go.Proofs.Qxb6615056aDoor

/-
  PLAIN: the depth-first search of 'depths' as a machine on numbers, its invariant, its measure, what it ends with. No Go here.
-/
namespace Go.Tocsin

/-- A frame of the path: the configuration, the step being explored, whether there is one, the depth so far. -/
structure Fr where
  idx : Nat
  cur : Nat
  more : Bool
  dep : Int

section
variable (C : Nat) (S : Nat → Nat → Prop) (good : Nat → Bool)

/-- What a frame says of the depths found so far. -/
def FrOk (D : Nat → Int) (f : Fr) : Prop :=
  f.idx < C ∧ good f.idx = false ∧
  (f.more = true → S f.idx f.cur ∧ f.cur < C ∧ 0 ≤ f.dep ∧ (∀ k, S f.idx k → k < f.cur → 0 ≤ D k ∧ D k + 1 ≤ f.dep) ∧ (0 < f.dep → ∃ k, k < f.cur ∧ S f.idx k ∧ 0 ≤ D k ∧ D k + 1 = f.dep)) ∧
  (f.more = false → (f.dep = -3 ∧ ∃ k, k < C ∧ S f.idx k ∧ (D k = -3 ∨ D k = -2)) ∨ (0 < f.dep ∧ (∀ k, S f.idx k → 0 ≤ D k ∧ D k + 1 ≤ f.dep) ∧ ∃ k, S f.idx k ∧ 0 ≤ D k ∧ D k + 1 = f.dep))

/-- Every frame but the top explores the step to the frame above it. -/
def Chain : List Fr → Prop
  | [] => True
  | [_] => True
  | f :: g :: r => g.more = true ∧ g.cur = f.idx ∧ Chain (g :: r)

/-- The run along the path comes back to itself: all of it will be found endless. -/
def Doomed (D : Nat → Int) : List Fr → Prop
  | [] => False
  | f :: _ => (f.more = false ∧ f.dep = -3) ∨ (f.more = true ∧ D f.cur = -3)

structure Inv (D : Nat → Int) (p : List Fr) : Prop where
  val : ∀ i, i < C → D i = -1 ∨ D i = -2 ∨ D i = -3 ∨ 0 ≤ D i
  on : ∀ i, i < C → D i = -2 → ∃ f ∈ p, f.idx = i
  onp : ∀ f ∈ p, D f.idx = -2
  nodup : (p.map Fr.idx).Nodup
  good0 : ∀ i, i < C → (good i = true → D i = 0) ∧ (good i = false → D i ≠ 0)
  fin : ∀ i, i < C → 0 < D i → (∀ k, S i k → 0 ≤ D k ∧ D k + 1 ≤ D i) ∧ ∃ k, S i k ∧ 0 ≤ D k ∧ D k + 1 = D i
  frames : ∀ f ∈ p, FrOk C S good D f
  chain : Chain p
  inf : ∀ i, i < C → D i = -3 → ∃ k, k < C ∧ S i k ∧ (D k = -3 ∨ (D k = -2 ∧ Doomed D p))
end

section
variable {C : Nat} {S : Nat → Nat → Prop} {good : Nat → Bool} {D : Nat → Int}

/-- D with one value put. -/
def upd (D : Nat → Int) (i : Nat) (x : Int) : Nat → Int := fun j => if j = i then x else D j
@[simp] theorem upd_same (i : Nat) (x : Int) : upd D i x i = x := by simp [upd]
theorem upd_other {i j : Nat} (x : Int) (h : j ≠ i) : upd D i x j = D j := by simp [upd, h]

/-- The step is met while it is on the path, or is known to be endless. -/
theorem Inv.doom {f : Fr} {r : List Fr} (h : Inv C S good D (f :: r)) (hm : f.more = true) (hd : D f.cur = -2 ∨ D f.cur = -3) :
    Inv C S good D ({ f with more := false, dep := -3 } :: r) := by
  obtain ⟨f1, f2, f3, _⟩ := h.frames f (by simp)
  obtain ⟨g1, g2, g3, g4, g5⟩ := f3 hm
  refine ⟨h.val, fun i hi e => ?_, fun g hg => ?_, by simpa using h.nodup, h.good0, h.fin, fun g hg => ?_, ?_, fun i hi e => ?_⟩
  · obtain ⟨g, hg, e⟩ := h.on i hi e
    rcases List.mem_cons.1 hg with rfl | hg
    · exact ⟨_, List.mem_cons_self, e⟩
    · exact ⟨g, by simp [hg], e⟩
  · rcases List.mem_cons.1 hg with rfl | hg
    · exact h.onp f (by simp)
    · exact h.onp g (by simp [hg])
  · rcases List.mem_cons.1 hg with rfl | hg
    · exact ⟨f1, f2, fun e => by simp at e, fun _ => .inl ⟨rfl, f.cur, g2, g1, by rcases hd with h | h <;> simp [h]⟩⟩
    · exact h.frames g (by simp [hg])
  · have := h.chain
    cases r with
    | nil => trivial
    | cons g r => exact this
  · obtain ⟨k, hk, hs, e⟩ := h.inf i hi e
    refine ⟨k, hk, hs, ?_⟩
    rcases e with e | ⟨e, _⟩
    · exact .inl e
    · exact .inr ⟨e, .inl ⟨rfl, rfl⟩⟩

/-- The step leads to a configuration that is not explored yet: it is entered. -/
theorem Inv.push {p : List Fr} {x : Nat} (h : Inv C S good D p) (g2 : x < C) (hd : D x = -1) (c : Nat) (hc : S x c) (hcC : c < C) (hmin : ∀ k, S x k → c ≤ k) (hchain : Chain (⟨x, c, true, 0⟩ :: p)) (hndoom : ¬ Doomed D p) :
    Inv C S good (upd D x (-2)) (⟨x, c, true, 0⟩ :: p) := by
  have hne : ∀ g ∈ p, g.idx ≠ x := fun g hg e => by have := h.onp g hg; rw [e] at this; omega
  have hge : ∀ k, 0 ≤ D k → upd D x (-2) k = D k := fun k hk => upd_other _ (fun e => by rw [e] at hk; omega)
  have h3 : ∀ k, D k = -3 → upd D x (-2) k = D k := fun k hk => upd_other _ (fun e => by rw [e] at hk; omega)
  refine ⟨fun i hi => ?_, fun i hi e => ?_, fun g hg => ?_, ?_, fun i hi => ?_, fun i hi e => ?_, fun g hg => ?_, ?_, fun i hi e => ?_⟩
  · by_cases e : i = x
    · subst e; simp
    · rw [upd_other _ e]; exact h.val i hi
  · by_cases e' : i = x
    · exact ⟨_, List.mem_cons_self, e'.symm⟩
    · rw [upd_other _ e'] at e
      obtain ⟨g, hg, e⟩ := h.on i hi e
      exact ⟨g, List.mem_cons_of_mem _ hg, e⟩
  · rcases List.mem_cons.1 hg with rfl | hg
    · simp
    · rw [upd_other _ (hne g hg)]; exact h.onp g hg
  · rw [List.map_cons, List.nodup_cons]
    refine ⟨fun hm => ?_, h.nodup⟩
    obtain ⟨g, hg, e⟩ := List.mem_map.1 hm
    exact hne g hg e
  · by_cases e : i = x
    · have := h.good0 x g2
      rw [e]
      refine ⟨fun hg => ?_, fun _ => by simp⟩
      have := this.1 hg
      omega
    · rw [upd_other _ e]; exact h.good0 i hi
  · have hi' : i ≠ x := fun e' => by rw [e'] at e; simp at e
    rw [upd_other _ hi'] at e ⊢
    obtain ⟨h1, k, hk, hk1, hk2⟩ := h.fin i hi e
    refine ⟨fun k hk => ?_, k, hk, ?_⟩
    · have := h1 k hk; rw [hge k this.1]; exact this
    · rw [hge k hk1]; exact ⟨hk1, hk2⟩
  · rcases List.mem_cons.1 hg with rfl | hg
    · have hgood : good x = false := by
        cases hgd : good x with
        | false => rfl
        | true => have := (h.good0 x g2).1 hgd; omega
      refine ⟨g2, hgood, fun _ => ⟨hc, hcC, by simp, fun k hk hlt => ?_, fun hp => by simp at hp⟩, fun e => by simp at e⟩
      have := hmin k hk
      simp at hlt
      omega
    · obtain ⟨a1, a2, a3, a4⟩ := h.frames g hg
      refine ⟨a1, a2, fun e => ?_, fun e => ?_⟩
      · obtain ⟨b1, b2, b3, b4, b5⟩ := a3 e
        refine ⟨b1, b2, b3, fun k hk hlt => ?_, fun hp => ?_⟩
        · have := b4 k hk hlt; rw [hge k this.1]; exact this
        · obtain ⟨k, c1, c2, c3, c4⟩ := b5 hp
          exact ⟨k, c1, c2, by rw [hge k c3]; exact ⟨c3, c4⟩⟩
      · rcases a4 e with ⟨e1, k, hk, hk1, hk2⟩ | ⟨e1, e2, k, hk, hk1, hk2⟩
        · refine .inl ⟨e1, k, hk, hk1, ?_⟩
          by_cases ek : k = x
          · subst ek; simp
          · rw [upd_other _ ek]; exact hk2
        · refine .inr ⟨e1, fun k hk => ?_, k, hk, ?_⟩
          · have := e2 k hk; rw [hge k this.1]; exact this
          · rw [hge k hk1]; exact ⟨hk1, hk2⟩
  · exact hchain
  · have hi' : i ≠ x := fun e' => by rw [e'] at e; simp at e
    rw [upd_other _ hi'] at e
    obtain ⟨k, hk, hs, e2⟩ := h.inf i hi e
    refine ⟨k, hk, hs, .inl ?_⟩
    rcases e2 with e2 | ⟨_, e2⟩
    · rw [h3 k e2]; exact e2
    · exact absurd e2 hndoom

theorem Inv.enter {f : Fr} {r : List Fr} (h : Inv C S good D (f :: r)) (hm : f.more = true) (hd : D f.cur = -1) (c : Nat) (hc : S f.cur c) (hcC : c < C) (hmin : ∀ k, S f.cur k → c ≤ k) :
    Inv C S good (upd D f.cur (-2)) (⟨f.cur, c, true, 0⟩ :: f :: r) := by
  obtain ⟨f1, f2, f3, _⟩ := h.frames f (by simp)
  obtain ⟨g1, g2, g3, g4, g5⟩ := f3 hm
  refine h.push g2 hd c hc hcC hmin ⟨hm, rfl, h.chain⟩ ?_
  intro hdo
  rcases hdo with ⟨e, _⟩ | ⟨_, e⟩
  · rw [hm] at e; cases e
  · omega
theorem Inv.begin {x : Nat} (h : Inv C S good D []) (hx : x < C) (hd : D x = -1) (c : Nat) (hc : S x c) (hcC : c < C) (hmin : ∀ k, S x k → c ≤ k) : Inv C S good (upd D x (-2)) [⟨x, c, true, 0⟩] :=
  h.push hx hd c hc hcC hmin trivial (fun h => h)

/-- The step leads to a configuration of known depth, and there is a next step. -/
theorem Inv.next {f : Fr} {r : List Fr} (h : Inv C S good D (f :: r)) (hm : f.more = true) (hd : 0 ≤ D f.cur) (c : Nat) (hc : S f.idx c) (hcC : c < C) (hlt : f.cur < c) (hmin : ∀ k, S f.idx k → f.cur < k → c ≤ k) :
    Inv C S good D ({ f with cur := c, dep := max f.dep (D f.cur + 1) } :: r) := by
  obtain ⟨f1, f2, f3, _⟩ := h.frames f (by simp)
  obtain ⟨g1, g2, g3, g4, g5⟩ := f3 hm
  have hndoom : ¬ Doomed D (f :: r) := by
    intro hdo
    rcases hdo with ⟨e, _⟩ | ⟨_, e⟩
    · rw [hm] at e; cases e
    · omega
  refine ⟨h.val, fun i hi e => ?_, fun g hg => ?_, by simpa using h.nodup, h.good0, h.fin, fun g hg => ?_, ?_, fun i hi e => ?_⟩
  · obtain ⟨g, hg, e⟩ := h.on i hi e
    rcases List.mem_cons.1 hg with rfl | hg
    · exact ⟨_, List.mem_cons_self, e⟩
    · exact ⟨g, by simp [hg], e⟩
  · rcases List.mem_cons.1 hg with rfl | hg
    · exact h.onp f (by simp)
    · exact h.onp g (by simp [hg])
  · rcases List.mem_cons.1 hg with rfl | hg
    · refine ⟨f1, f2, fun _ => ⟨hc, hcC, by show 0 ≤ max _ _; omega, fun k hk hkl => ?_, fun hp => ?_⟩, fun e => by simp [hm] at e⟩
      · show 0 ≤ D k ∧ D k + 1 ≤ max _ _
        have hkl' : k < c := hkl
        by_cases e1 : k < f.cur
        · have := g4 k hk e1; omega
        · by_cases e2 : k = f.cur
          · subst e2; omega
          · have := hmin k hk (by omega); omega
      · show ∃ k, k < c ∧ S f.idx k ∧ 0 ≤ D k ∧ D k + 1 = max _ _
        by_cases e1 : f.dep ≤ D f.cur + 1
        · exact ⟨f.cur, hlt, g1, hd, by omega⟩
        · obtain ⟨k, c1, c2, c3, c4⟩ := g5 (by omega)
          exact ⟨k, by omega, c2, c3, by omega⟩
    · exact h.frames g (by simp [hg])
  · have := h.chain
    cases r with
    | nil => trivial
    | cons g r => exact this
  · obtain ⟨k, hk, hs, e2⟩ := h.inf i hi e
    refine ⟨k, hk, hs, .inl ?_⟩
    rcases e2 with e2 | ⟨_, e2⟩
    · exact e2
    · exact absurd e2 hndoom

/-- The step leads to a configuration of known depth, and it was the last one. -/
theorem Inv.last {f : Fr} {r : List Fr} (h : Inv C S good D (f :: r)) (hm : f.more = true) (hd : 0 ≤ D f.cur) (c : Nat) (hmax : ∀ k, S f.idx k → k ≤ f.cur) :
    Inv C S good D (⟨f.idx, c, false, max f.dep (D f.cur + 1)⟩ :: r) := by
  obtain ⟨f1, f2, f3, _⟩ := h.frames f (by simp)
  obtain ⟨g1, g2, g3, g4, g5⟩ := f3 hm
  have hndoom : ¬ Doomed D (f :: r) := by
    intro hdo
    rcases hdo with ⟨e, _⟩ | ⟨_, e⟩
    · rw [hm] at e; cases e
    · omega
  refine ⟨h.val, fun i hi e => ?_, fun g hg => ?_, by simpa using h.nodup, h.good0, h.fin, fun g hg => ?_, ?_, fun i hi e => ?_⟩
  · obtain ⟨g, hg, e⟩ := h.on i hi e
    rcases List.mem_cons.1 hg with rfl | hg
    · exact ⟨_, List.mem_cons_self, e⟩
    · exact ⟨g, by simp [hg], e⟩
  · rcases List.mem_cons.1 hg with rfl | hg
    · exact h.onp f (by simp)
    · exact h.onp g (by simp [hg])
  · rcases List.mem_cons.1 hg with rfl | hg
    · refine ⟨f1, f2, fun e => by simp at e, fun _ => .inr ⟨by show 0 < max _ _; omega, fun k hk => ?_, ?_⟩⟩
      · show 0 ≤ D k ∧ D k + 1 ≤ max _ _
        have hle := hmax k hk
        by_cases e1 : k < f.cur
        · have := g4 k hk e1; omega
        · obtain rfl : k = f.cur := by omega
          omega
      · show ∃ k, S f.idx k ∧ 0 ≤ D k ∧ D k + 1 = max _ _
        by_cases e1 : f.dep ≤ D f.cur + 1
        · exact ⟨f.cur, g1, hd, by omega⟩
        · obtain ⟨k, c1, c2, c3, c4⟩ := g5 (by omega)
          exact ⟨k, c2, c3, by omega⟩
    · exact h.frames g (by simp [hg])
  · have := h.chain
    cases r with
    | nil => trivial
    | cons g r => exact this
  · obtain ⟨k, hk, hs, e2⟩ := h.inf i hi e
    refine ⟨k, hk, hs, .inl ?_⟩
    rcases e2 with e2 | ⟨_, e2⟩
    · exact e2
    · exact absurd e2 hndoom

theorem chain_more : ∀ (r : List Fr) (f : Fr), Chain (f :: r) → ∀ g ∈ r, g.more = true
  | [], _, _, g, hg => by cases hg
  | x :: r, _, h, g, hg => by
    rcases List.mem_cons.1 hg with rfl | hg
    · exact h.1
    · exact chain_more r x h.2.2 g hg

/-- No step is left: the configuration has its depth. -/
theorem Inv.pop {f : Fr} {r : List Fr} (h : Inv C S good D (f :: r)) (hm : f.more = false) : Inv C S good (upd D f.idx f.dep) r := by
  obtain ⟨f1, f2, _, f4⟩ := h.frames f (by simp)
  have hon : D f.idx = -2 := h.onp f (by simp)
  have hnd := h.nodup
  rw [List.map_cons, List.nodup_cons] at hnd
  have hne : ∀ g ∈ r, g.idx ≠ f.idx := fun g hg e => hnd.1 (List.mem_map.2 ⟨g, hg, e⟩)
  have hge : ∀ k, 0 ≤ D k → upd D f.idx f.dep k = D k := fun k hk => upd_other _ (fun e => by rw [e] at hk; omega)
  have h3 : ∀ k, D k = -3 → upd D f.idx f.dep k = D k := fun k hk => upd_other _ (fun e => by rw [e] at hk; omega)
  have hch : Chain r := by
    have := h.chain
    cases r with
    | nil => trivial
    | cons g r => exact this.2.2
  have hmore : ∀ g r', r = g :: r' → g.more = true ∧ g.cur = f.idx := fun g r' e => by
    have := h.chain
    subst e
    exact ⟨this.1, this.2.1⟩
  have hallmore := chain_more r f h.chain
  have hdep : f.dep = -3 ∨ 0 < f.dep := by rcases f4 hm with ⟨e, _⟩ | ⟨e, _⟩; exact .inl e; exact .inr e
  have hdoom : ∀ k, k < C → k ≠ f.idx → D k = -2 → f.dep = -3 → Doomed (upd D f.idx f.dep) r := by
    intro k hk hne' e e3
    obtain ⟨g, hg, eg⟩ := h.on k hk e
    rcases List.mem_cons.1 hg with rfl | hg
    · exact absurd eg.symm hne'
    · cases r with
      | nil => cases hg
      | cons x r' =>
        obtain ⟨m1, m2⟩ := hmore x r' rfl
        exact .inr ⟨m1, by rw [m2]; simp [e3]⟩
  have hwit : ∀ k, k < C → D k = -3 ∨ D k = -2 → f.dep = -3 → upd D f.idx f.dep k = -3 ∨ (upd D f.idx f.dep k = -2 ∧ Doomed (upd D f.idx f.dep) r) := by
    intro k hk e e3
    rcases e with e | e
    · exact .inl (by rw [h3 k e]; exact e)
    · by_cases ek : k = f.idx
      · subst ek; exact .inl (by simp [e3])
      · exact .inr ⟨by rw [upd_other _ ek]; exact e, hdoom k hk ek e e3⟩
  refine ⟨fun i hi => ?_, fun i hi e => ?_, fun g hg => ?_, hnd.2, fun i hi => ?_, fun i hi e => ?_, fun g hg => ?_, hch, fun i hi e => ?_⟩
  · by_cases e : i = f.idx
    · subst e; simp only [upd_same]; omega
    · rw [upd_other _ e]; exact h.val i hi
  · have hi' : i ≠ f.idx := fun e' => by rw [e', upd_same] at e; omega
    rw [upd_other _ hi'] at e
    obtain ⟨g, hg, eg⟩ := h.on i hi e
    rcases List.mem_cons.1 hg with rfl | hg
    · exact absurd eg.symm hi'
    · exact ⟨g, hg, eg⟩
  · rw [upd_other _ (hne g hg)]; exact h.onp g (by simp [hg])
  · by_cases e : i = f.idx
    · subst e
      simp only [upd_same]
      exact ⟨(fun hg => by rw [f2] at hg; exact absurd hg (by simp)), fun _ => by omega⟩
    · rw [upd_other _ e]; exact h.good0 i hi
  · by_cases e' : i = f.idx
    · subst e'
      simp only [upd_same] at e ⊢
      rcases f4 hm with ⟨e1, _⟩ | ⟨_, e2, k, hk, hk1, hk2⟩
      · omega
      · refine ⟨fun k hk => ?_, k, hk, ?_⟩
        · have := e2 k hk; rw [hge k this.1]; exact this
        · rw [hge k hk1]; exact ⟨hk1, hk2⟩
    · rw [upd_other _ e'] at e ⊢
      obtain ⟨h1, k, hk, hk1, hk2⟩ := h.fin i hi e
      refine ⟨fun k hk => ?_, k, hk, ?_⟩
      · have := h1 k hk; rw [hge k this.1]; exact this
      · rw [hge k hk1]; exact ⟨hk1, hk2⟩
  · obtain ⟨a1, a2, a3, a4⟩ := h.frames g (by simp [hg])
    have gm := hallmore g hg
    refine ⟨a1, a2, fun e => ?_, fun e => by rw [gm] at e; cases e⟩
    obtain ⟨b1, b2, b3, b4, b5⟩ := a3 e
    refine ⟨b1, b2, b3, fun k hk hlt => ?_, fun hp => ?_⟩
    · have := b4 k hk hlt; rw [hge k this.1]; exact this
    · obtain ⟨k, c1, c2, c3, c4⟩ := b5 hp
      exact ⟨k, c1, c2, by rw [hge k c3]; exact ⟨c3, c4⟩⟩
  · by_cases e' : i = f.idx
    · subst e'
      simp only [upd_same] at e
      rcases f4 hm with ⟨_, k, hk, hs, hw⟩ | ⟨e1, _⟩
      · exact ⟨k, hk, hs, hwit k hk hw e⟩
      · omega
    · rw [upd_other _ e'] at e
      obtain ⟨k, hk, hs, e2⟩ := h.inf i hi e
      rcases e2 with e2 | ⟨e2, hdo⟩
      · exact ⟨k, hk, hs, .inl (by rw [h3 k e2]; exact e2)⟩
      · have e3 : f.dep = -3 := by
          rcases hdo with ⟨_, e3⟩ | ⟨e3, _⟩
          · exact e3
          · rw [hm] at e3; cases e3
        exact ⟨k, hk, hs, hwit k hk (.inr e2) e3⟩

/-- What the search ends with. -/
structure Final (C : Nat) (S : Nat → Nat → Prop) (good : Nat → Bool) (D : Nat → Int) : Prop where
  fine : ∀ i, i < C → good i = true → D i = 0
  bad : ∀ i, i < C → good i = false → (D i = -3 ∧ ∃ k, k < C ∧ S i k ∧ D k = -3) ∨ (0 < D i ∧ (∀ k, S i k → 0 ≤ D k ∧ D k + 1 ≤ D i) ∧ ∃ k, S i k ∧ 0 ≤ D k ∧ D k + 1 = D i)

theorem Inv.final (h : Inv C S good D []) (hall : ∀ i, i < C → D i ≠ -1) : Final C S good D := by
  refine ⟨fun i hi hg => (h.good0 i hi).1 hg, fun i hi hg => ?_⟩
  have h0 := (h.good0 i hi).2 hg
  have h1 := hall i hi
  have hno : ∀ k, k < C → D k ≠ -2 := fun k hk e => by obtain ⟨f, hf, _⟩ := h.on k hk e; cases hf
  have h2 := hno i hi
  rcases h.val i hi with e | e | e | e
  · exact absurd e h1
  · exact absurd e h2
  · obtain ⟨k, hk, hs, hw⟩ := h.inf i hi e
    rcases hw with hw | ⟨hw, _⟩
    · exact .inl ⟨e, k, hk, hs, hw⟩
    · exact absurd hw (hno k hk)
  · obtain ⟨a, b⟩ := h.fin i hi (by omega)
    exact .inr ⟨by omega, a, b⟩

/-! ### The measure -/
def unx (D : Nat → Int) : Nat → Nat
  | 0 => 0
  | n + 1 => unx D n + if D n = -1 then 1 else 0
def wt (C : Nat) (f : Fr) : Nat := if f.more then 2 * (C - f.cur) + 2 else 1
def wts (C : Nat) : List Fr → Nat
  | [] => 0
  | f :: r => wt C f + wts C r
def mu (C : Nat) (D : Nat → Int) (p : List Fr) : Nat := unx D C * (2 * C + 3) + wts C p

theorem unx_upd (x : Int) (i : Nat) : ∀ n, unx (upd D i x) n + (if i < n ∧ D i = -1 then 1 else 0) = unx D n + (if i < n ∧ x = -1 then 1 else 0)
  | 0 => by simp [unx]
  | n + 1 => by
    have ih := unx_upd x i n
    simp only [unx]
    by_cases e : n = i
    · subst e
      rw [upd_same]
      by_cases h1 : D n = -1 <;> by_cases h2 : x = -1 <;> simp_all <;> omega
    · rw [upd_other _ e]
      by_cases h1 : i < n
      · have h2 : i < n + 1 := by omega
        simp only [h1, h2, true_and] at ih ⊢
        omega
      · have h2 : ¬ i < n + 1 := by omega
        simp only [h1, h2, false_and, if_false] at ih ⊢
        omega
theorem unx_same {x : Int} {i n : Nat} (h1 : D i ≠ -1) (h2 : x ≠ -1) : unx (upd D i x) n = unx D n := by
  have := unx_upd (D := D) x i n
  simpa [h1, h2] using this
theorem unx_less {x : Int} {i n : Nat} (hi : i < n) (h1 : D i = -1) (h2 : x ≠ -1) : unx (upd D i x) n + 1 = unx D n := by
  have := unx_upd (D := D) x i n
  simpa [h1, h2, hi] using this

theorem mu_doom {f : Fr} {r : List Fr} (hm : f.more = true) : mu C D ({ f with more := false, dep := -3 } :: r) < mu C D (f :: r) := by
  simp [mu, wts, wt, hm]
theorem mu_next {f : Fr} {r : List Fr} (c : Nat) (d : Int) (hm : f.more = true) (hlt : f.cur < c) (hc : c < C) : mu C D ({ f with cur := c, dep := d } :: r) < mu C D (f :: r) := by
  simp only [mu, wts, wt, hm, if_true]; omega
theorem mu_last {f : Fr} {r : List Fr} (c : Nat) (d : Int) (hm : f.more = true) : mu C D (⟨f.idx, c, false, d⟩ :: r) < mu C D (f :: r) := by
  simp [mu, wts, wt, hm]
theorem mu_enter {p : List Fr} {x : Nat} (c : Nat) (hx : x < C) (hd : D x = -1) (hc : c < C) : mu C (upd D x (-2)) (⟨x, c, true, 0⟩ :: p) < mu C D p := by
  have h := unx_less (D := D) (x := -2) hx hd (by omega)
  simp only [mu, wts, wt, if_true]
  have h2 : unx D C * (2 * C + 3) = unx (upd D x (-2)) C * (2 * C + 3) + (2 * C + 3) := by rw [← h, Nat.add_mul, Nat.one_mul]
  rw [h2]
  omega
theorem mu_pop {f : Fr} {r : List Fr} (h1 : D f.idx ≠ -1) (h2 : f.dep ≠ -1) (hm : f.more = false) : mu C (upd D f.idx f.dep) r < mu C D (f :: r) := by
  simp only [mu, wts, wt, unx_same h1 h2, hm]
  simp

/-! ### Every depth is below the number of configurations -/
theorem pigeon : ∀ (C d : Nat) (f : Nat → Nat), (∀ v, v ≤ d → f v < C) → (∀ u v, u ≤ d → v ≤ d → f u = f v → u = v) → d < C
  | 0, d, f, h, _ => absurd (h 0 (by omega)) (by omega)
  | C + 1, d, f, h, inj => by
    by_cases hex : ∃ v0, v0 ≤ d ∧ f v0 = C
    · obtain ⟨v0, hv0, e0⟩ := hex
      by_cases hd : d = 0
      · omega
      · have := pigeon C (d - 1) (fun v => if v < v0 then f v else f (v + 1)) (fun v hv => by
          by_cases hl : v < v0
          · have h1 := h v (by omega)
            have h2 : f v ≠ C := fun e => by have := inj v v0 (by omega) hv0 (by omega); omega
            simp only [hl, if_true]; omega
          · have h1 := h (v + 1) (by omega)
            have h2 : f (v + 1) ≠ C := fun e => by have := inj (v + 1) v0 (by omega) hv0 (by omega); omega
            simp only [hl, if_false]; omega) (fun u v hu hv e => by
          by_cases h1 : u < v0 <;> by_cases h2 : v < v0 <;> simp only [h1, h2, if_true, if_false] at e
          · exact inj u v (by omega) (by omega) e
          · have := inj u (v + 1) (by omega) (by omega) e; omega
          · have := inj (u + 1) v (by omega) (by omega) e; omega
          · have := inj (u + 1) (v + 1) (by omega) (by omega) e; omega)
        omega
    · have := pigeon C d f (fun v hv => by
        have h1 := h v hv
        have h2 : f v ≠ C := fun e => hex ⟨v, hv, e⟩
        omega) inj
      omega

theorem Final.reach (h : Final C S good D) (hS : ∀ i k, i < C → S i k → k < C) : ∀ (d : Nat) (i : Nat), i < C → D i = d → ∀ v, v ≤ d → ∃ x, x < C ∧ D x = v
  | 0, i, hi, e, v, hv => ⟨i, hi, by rw [e]; omega⟩
  | d + 1, i, hi, e, v, hv => by
    by_cases hv' : v = d + 1
    · exact ⟨i, hi, by rw [e, hv']⟩
    · cases hg : good i with
      | true => have := h.fine i hi hg; omega
      | false =>
        rcases h.bad i hi hg with ⟨e1, _⟩ | ⟨_, _, k, hk, _, hk2⟩
        · omega
        · exact Final.reach h hS d k (hS i k hi hk) (by omega) v (by omega)

theorem Final.bound (h : Final C S good D) (hS : ∀ i k, i < C → S i k → k < C) {i : Nat} (hi : i < C) : D i < C := by
  by_cases h0 : D i < 0
  · omega
  · obtain ⟨d, hd⟩ : ∃ d : Nat, D i = d := ⟨(D i).toNat, by omega⟩
    have hr := h.reach hS d i hi hd
    have hf : ∃ f : Nat → Nat, ∀ v, v ≤ d → f v < C ∧ D (f v) = v := by
      refine ⟨fun v => if hv : v ≤ d then Classical.choose (hr v hv) else 0, fun v hv => ?_⟩
      simp only [hv, dif_pos]
      exact Classical.choose_spec (hr v hv)
    obtain ⟨f, hf⟩ := hf
    have := pigeon C d f (fun v hv => (hf v hv).1) (fun u v hu hv e => by
      have h1 := (hf u hu).2
      have h2 := (hf v hv).2
      rw [e, h2] at h1
      omega)
    omega

theorem Final.vals (h : Final C S good D) {i : Nat} (hi : i < C) : (D i = -3 ∨ 0 ≤ D i) ∧ (D i = 0 ↔ good i = true) := by
  cases hg : good i with
  | true => have := h.fine i hi hg; simp [this]
  | false => rcases h.bad i hi hg with ⟨e, _⟩ | ⟨e, _⟩ <;> simp <;> omega
end
end Go.Tocsin

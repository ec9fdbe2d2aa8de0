/-
  PLAIN: vectors of digits base s, their numbers, the next vector in a product of sets. No Go here.
-/
namespace Go.Tocsin

/-- The number of the first m digits, the first the most significant. -/
def ix (s : Nat) (d : Nat → Nat) : Nat → Nat
  | 0 => 0
  | m + 1 => ix s d m * s + d m

theorem lt_cons {s a b x y : Nat} (hx : x < s) (hy : y < s) : a * s + x < b * s + y ↔ a < b ∨ (a = b ∧ x < y) := by
  constructor
  · intro h
    by_cases h1 : a < b
    · exact .inl h1
    · by_cases h2 : a = b
      · subst h2; exact .inr ⟨rfl, by omega⟩
      · have : (b + 1) * s ≤ a * s := Nat.mul_le_mul_right s (by omega)
        rw [Nat.add_mul, Nat.one_mul] at this
        omega
  · rintro (h | ⟨rfl, h⟩)
    · have : (a + 1) * s ≤ b * s := Nat.mul_le_mul_right s (by omega)
      rw [Nat.add_mul, Nat.one_mul] at this
      omega
    · omega

theorem ix_congr {s : Nat} {d e : Nat → Nat} : ∀ {m : Nat}, (∀ j, j < m → d j = e j) → ix s d m = ix s e m
  | 0, _ => rfl
  | m + 1, h => by simp only [ix]; rw [ix_congr (fun j hj => h j (by omega)), h m (by omega)]

theorem ix_lt {s : Nat} {d : Nat → Nat} : ∀ {m : Nat}, (∀ j, j < m → d j < s) → ix s d m < s ^ m
  | 0, _ => by simp [ix]
  | m + 1, h => by
    have ih := ix_lt (m := m) (fun j hj => h j (by omega))
    have hm := h m (by omega)
    simp only [ix]
    have : (ix s d m + 1) * s ≤ s ^ m * s := Nat.mul_le_mul_right s ih
    rw [Nat.add_mul, Nat.one_mul] at this
    rw [Nat.pow_succ]
    omega

theorem ix_inj {s : Nat} {d e : Nat → Nat} : ∀ {m : Nat}, (∀ j, j < m → d j < s) → (∀ j, j < m → e j < s) → ix s d m = ix s e m → ∀ j, j < m → d j = e j
  | 0, _, _, _, j, hj => by omega
  | m + 1, hd, he, h, j, hj => by
    simp only [ix] at h
    have h1 := hd m (by omega)
    have h2 := he m (by omega)
    have n1 : ¬ (ix s d m * s + d m < ix s e m * s + e m) := by omega
    have n2 : ¬ (ix s e m * s + e m < ix s d m * s + d m) := by omega
    rw [lt_cons h1 h2] at n1
    rw [lt_cons h2 h1] at n2
    have e1 : ix s d m = ix s e m := by omega
    have e2 : d m = e m := by omega
    by_cases hjm : j = m
    · subst hjm; exact e2
    · exact ix_inj (fun j hj => hd j (by omega)) (fun j hj => he j (by omega)) e1 j (by omega)

theorem ix_mono {s : Nat} {d e : Nat → Nat} : ∀ {m : Nat}, (∀ j, j < m → d j ≤ e j) → ix s d m ≤ ix s e m
  | 0, _ => Nat.le_refl _
  | m + 1, h => by
    have ih := ix_mono (s := s) (m := m) (fun j hj => h j (by omega))
    have hm := h m (by omega)
    simp only [ix]
    have := Nat.mul_le_mul_right s ih
    omega

/-- Digit j of k, of m digits. -/
def dg (s m k j : Nat) : Nat := k / s ^ (m - 1 - j) % s
theorem dg_lt {s : Nat} (hs : 0 < s) (m k j : Nat) : dg s m k j < s := Nat.mod_lt _ hs
theorem dg_succ {s m k j : Nat} (hj : j < m) : dg s (m + 1) k j = dg s m (k / s) j := by
  unfold dg
  rw [show m + 1 - 1 - j = (m - 1 - j) + 1 by omega, Nat.pow_succ, Nat.mul_comm, ← Nat.div_div_eq_div_mul]
theorem dg_last (s m k : Nat) : dg s (m + 1) k m = k % s := by
  unfold dg
  rw [show m + 1 - 1 - m = 0 by omega, Nat.pow_zero, Nat.div_one]
theorem ix_dg {s : Nat} (hs : 0 < s) : ∀ {m k : Nat}, k < s ^ m → ix s (dg s m k) m = k
  | 0, k, h => by simp at h; subst h; rfl
  | m + 1, k, h => by
    simp only [ix]
    rw [ix_congr (e := dg s m (k / s)) (fun j hj => dg_succ hj), ix_dg hs (by rw [Nat.div_lt_iff_lt_mul hs, ← Nat.pow_succ]; exact h), dg_last]
    rw [Nat.mul_comm]
    exact Nat.div_add_mod k s
theorem dg_ix {s : Nat} {d : Nat → Nat} (hs : 0 < s) {m : Nat} (h : ∀ j, j < m → d j < s) : ∀ j, j < m → dg s m (ix s d m) j = d j :=
  ix_inj (fun j _ => dg_lt hs m _ j) h (ix_dg hs (ix_lt h))

/-- The product of the sets M 0 .. M (m-1), all of digits below s. -/
def Prod' (s m : Nat) (M : Nat → Nat → Prop) (d : Nat → Nat) : Prop := ∀ j, j < m → d j < s ∧ M j (d j)

/-- v is the next vector behind d. -/
def IsNext (s m : Nat) (M : Nat → Nat → Prop) (d v : Nat → Nat) : Prop :=
  ix s d m < ix s v m ∧ ∀ e, Prod' s m M e → ix s d m < ix s e m → ix s v m ≤ ix s e m

theorem Prod'.mono {s m : Nat} {M : Nat → Nat → Prop} {d : Nat → Nat} (h : Prod' s (m + 1) M d) : Prod' s m M d := fun j hj => h j (by omega)

theorem next_here {s j : Nat} {M : Nat → Nat → Prop} {d v : Nat → Nat} (hd : Prod' s (j + 1) M d) (hv : ∀ q, q < j → v q = d q) (hlt : d j < v j) (hvs : v j < s) (hmin : ∀ x, M j x → d j < x → v j ≤ x) : IsNext s (j + 1) M d v := by
  have e : ix s v j = ix s d j := ix_congr hv
  refine ⟨by simp only [ix]; rw [e]; omega, fun w hw hl => ?_⟩
  simp only [ix] at hl ⊢
  rw [e]
  have h1 := (hd j (by omega)).1
  obtain ⟨h2, h3⟩ := hw j (by omega)
  rw [lt_cons h1 h2] at hl
  rcases hl with hl | ⟨hl, hx⟩
  · have : (ix s d j + 1) * s ≤ ix s w j * s := Nat.mul_le_mul_right s hl
    rw [Nat.add_mul, Nat.one_mul] at this
    omega
  · rw [hl]
    have := hmin _ h3 hx
    omega
theorem next_up {s m : Nat} {M : Nat → Nat → Prop} {d v : Nat → Nat} (h : IsNext s m M d v) (hd : d m < s) (hvs : v m < s) (hlo : ∀ x, M m x → v m ≤ x) (hmax : ∀ x, M m x → x ≤ d m) : IsNext s (m + 1) M d v := by
  refine ⟨by simp only [ix]; rw [lt_cons hd hvs]; exact .inl h.1, fun w hw hl => ?_⟩
  obtain ⟨h2, h3⟩ := hw m (by omega)
  simp only [ix] at hl ⊢
  rw [lt_cons hd h2] at hl
  have h1 : ix s d m < ix s w m := by
    rcases hl with hl | ⟨_, hx⟩
    · exact hl
    · have := hmax _ h3; omega
  have h4 := h.2 w hw.mono h1
  have h5 := hlo _ h3
  have := Nat.mul_le_mul_right s h4
  omega

/-- The vector that 'advance' makes: d up to j, x at j, the least behind it. -/
def bump (d lo : Nat → Nat) (j x : Nat) : Nat → Nat := fun q => if q < j then d q else if q = j then x else lo q

theorem bump_next {s : Nat} {M : Nat → Nat → Prop} {d lo : Nat → Nat} {j x : Nat} (hx : d j < x) (hxs : x < s) (hmin : ∀ y, M j y → d j < y → x ≤ y) : ∀ {m : Nat}, j < m → Prod' s m M d →
    (∀ q, j < q → q < m → lo q < s ∧ (∀ y, M q y → lo q ≤ y) ∧ ∀ y, M q y → y ≤ d q) → IsNext s m M d (bump d lo j x)
  | 0, hj, _, _ => by omega
  | m + 1, hj, hd, hq => by
    by_cases e : j = m
    · subst e
      exact next_here hd (fun q hq => by simp [bump, hq]) (by simp [bump]; exact hx) (by simp [bump]; exact hxs) (fun y hy hl => by simp [bump]; exact hmin y hy hl)
    · have ih := bump_next (s := s) (M := M) (d := d) (lo := lo) hx hxs hmin (m := m) (by omega) hd.mono (fun q h1 h2 => hq q h1 (by omega))
      obtain ⟨a1, a2, a3⟩ := hq m (by omega) (by omega)
      have hb : bump d lo j x m = lo m := by
        have h1 : ¬ m < j := by omega
        have h2 : ¬ m = j := by omega
        simp [bump, h1, h2]
      exact next_up ih (hd m (by omega)).1 (by rw [hb]; exact a1) (by rw [hb]; exact a2) a3

theorem bump_prod {s m : Nat} {M : Nat → Nat → Prop} {d lo : Nat → Nat} {j x : Nat} (hd : Prod' s m M d) (hlo : Prod' s m M lo) (hx : x < s) (hM : M j x) : Prod' s m M (bump d lo j x) := by
  intro q hq
  unfold bump
  by_cases h1 : q < j
  · simp only [h1, if_true]; exact hd q hq
  · by_cases h2 : q = j
    · subst h2; simp only [h1, if_true, if_false]; exact ⟨hx, hM⟩
    · simp only [h1, h2, if_false]; exact hlo q hq

/-- The first vector of the product. -/
theorem lo_first {s m : Nat} {M : Nat → Nat → Prop} {lo : Nat → Nat} (h : ∀ j, j < m → ∀ y, M j y → lo j ≤ y) {e : Nat → Nat} (he : Prod' s m M e) : ix s lo m ≤ ix s e m :=
  ix_mono (fun j hj => h j hj _ (he j hj).2)
/-- The last one. -/
theorem hi_last {s m : Nat} {M : Nat → Nat → Prop} {d : Nat → Nat} (h : ∀ j, j < m → ∀ y, M j y → y ≤ d j) {e : Nat → Nat} (he : Prod' s m M e) : ix s e m ≤ ix s d m :=
  ix_mono (fun j hj => h j hj _ (he j hj).2)

/-- Counting: the digits behind j are all s - 1 and come to 0, digit j goes up by one. -/
theorem ix_inc {s : Nat} {d : Nat → Nat} {j : Nat} (hs : 0 < s) : ∀ {m : Nat}, j < m → (∀ q, j < q → q < m → d q = s - 1) → ix s (bump d (fun _ => 0) j (d j + 1)) m = ix s d m + 1
  | 0, hj, _ => by omega
  | m + 1, hj, hq => by
    by_cases e : j = m
    · subst e
      simp only [ix]
      rw [ix_congr (e := d) (fun q hq => by simp [bump, hq])]
      simp [bump]
      omega
    · have ih := ix_inc (d := d) hs (m := m) (by omega) (fun q h1 h2 => hq q h1 (by omega))
      have h1 : ¬ m < j := by omega
      have h2 : ¬ m = j := by omega
      simp only [ix]
      rw [ih, hq m (by omega) (by omega), Nat.add_mul, Nat.one_mul]
      simp only [bump, h1, h2, if_false]
      omega
theorem ix_zero {s : Nat} : ∀ (m : Nat), ix s (fun _ => 0) m = 0
  | 0 => rfl
  | m + 1 => by simp [ix, ix_zero m]
end Go.Tocsin

/-
  PLAIN: the marked and the unmarked among n, in rising order; sums; numbers in base s.
-/
namespace Go.Tocsin

/-- How many of the first n bear the mark 'want'. -/
def cw (fb : Nat → Bool) (want : Bool) : Nat → Nat
  | 0 => 0
  | n + 1 => cw fb want n + if fb n = want then 1 else 0

/-- The i-th of those among the first n that bear the mark 'want'. -/
def nth (fb : Nat → Bool) (want : Bool) : Nat → Nat → Nat
  | 0, _ => 0
  | n + 1, i => if fb n = want ∧ i = cw fb want n then n else nth fb want n i

section
variable {fb : Nat → Bool} {want : Bool}

theorem cw_le (n : Nat) : cw fb want n ≤ n := by
  induction n with
  | zero => simp [cw]
  | succ n ih => simp only [cw]; split <;> omega
theorem cw_mono {m n : Nat} (h : m ≤ n) : cw fb want m ≤ cw fb want n := by
  induction n with
  | zero => obtain rfl : m = 0 := by omega
            exact Nat.le_refl _
  | succ n ih =>
    by_cases e : m = n + 1
    · subst e; exact Nat.le_refl _
    · have := ih (by omega); simp only [cw]; split <;> omega
theorem cw_lt {m n : Nat} (h : m < n) (hm : fb m = want) : cw fb want m < cw fb want n := by
  have h1 : cw fb want (m + 1) = cw fb want m + 1 := by simp [cw, hm]
  have := cw_mono (fb := fb) (want := want) (show m + 1 ≤ n by omega)
  omega
theorem cw_add (n : Nat) : cw fb false n + cw fb true n = n := by
  induction n with
  | zero => simp [cw]
  | succ n ih => simp only [cw]; cases fb n <;> simp <;> omega

theorem nth_cw : ∀ {n k : Nat}, k < n → fb k = want → nth fb want n (cw fb want k) = k := by
  intro n
  induction n with
  | zero => intro k h; omega
  | succ n ih =>
    intro k hk hw
    simp only [nth]
    by_cases e : k = n
    · subst e; simp [hw]
    · have hlt : k < n := by omega
      have := cw_lt hlt hw
      rw [if_neg (by intro h; omega)]
      exact ih hlt hw

theorem nth_lt : ∀ {n i : Nat}, i < cw fb want n → nth fb want n i < n ∧ fb (nth fb want n i) = want := by
  intro n
  induction n with
  | zero => intro i h; simp [cw] at h
  | succ n ih =>
    intro i hi
    simp only [nth]
    by_cases e : fb n = want ∧ i = cw fb want n
    · rw [if_pos e]; exact ⟨by omega, e.1⟩
    · rw [if_neg e]
      have : i < cw fb want n := by
        simp only [cw] at hi
        by_cases e2 : fb n = want
        · rw [if_pos e2] at hi
          have : ¬ i = cw fb want n := fun h => e ⟨e2, h⟩
          omega
        · rw [if_neg e2] at hi; omega
      have := ih this
      exact ⟨by omega, this.2⟩

theorem nth_mono : ∀ {n i j : Nat}, i < j → j < cw fb want n → nth fb want n i < nth fb want n j := by
  intro n
  induction n with
  | zero => intro i j _ h; simp [cw] at h
  | succ n ih =>
    intro i j hij hj
    simp only [nth]
    by_cases e : fb n = want ∧ j = cw fb want n
    · rw [if_pos e, if_neg (by intro h; omega)]
      exact (nth_lt (by omega)).1
    · have hj' : j < cw fb want n := by
        simp only [cw] at hj
        by_cases e2 : fb n = want
        · rw [if_pos e2] at hj
          have : ¬ j = cw fb want n := fun h => e ⟨e2, h⟩
          omega
        · rw [if_neg e2] at hj; omega
      rw [if_neg e, if_neg (by intro h; omega)]
      exact ih hij hj'

theorem cw_nth {n i : Nat} (h : i < cw fb want n) : cw fb want (nth fb want n i) = i := by
  have h1 := nth_lt h
  have h2 := nth_cw h1.1 h1.2
  have h3 := cw_lt h1.1 h1.2
  rcases Nat.lt_trichotomy (cw fb want (nth fb want n i)) i with h4 | h4 | h4
  · have := nth_mono h4 h; omega
  · exact h4
  · have := nth_mono h4 h3; omega
end

/-- f 0 + .. + f (n-1). -/
def sumTo (f : Nat → Int) : Nat → Int
  | 0 => 0
  | n + 1 => sumTo f n + f n

theorem sumTo_congr {f g : Nat → Int} {n : Nat} (h : ∀ i, i < n → f i = g i) : sumTo f n = sumTo g n := by
  induction n with
  | zero => rfl
  | succ n ih => simp only [sumTo]; rw [ih (fun i hi => h i (by omega)), h n (by omega)]

/-- n digits in base s, the first the most significant. -/
def num (s : Nat) (D : Nat → Int) (n : Nat) : Int := sumTo (fun v => D v * ((s ^ (n - 1 - v) : Nat) : Int)) n
/-- The same by Horner's rule. -/
def horner (s : Nat) (D : Nat → Int) : Nat → Int
  | 0 => 0
  | n + 1 => horner s D n * s + D n

theorem sumTo_mul (f : Nat → Int) (c : Int) (n : Nat) : sumTo (fun v => f v * c) n = sumTo f n * c := by
  induction n with
  | zero => simp [sumTo]
  | succ n ih => simp only [sumTo]; rw [ih, Int.add_mul]

theorem num_eq_horner (s : Nat) (D : Nat → Int) (n : Nat) : num s D n = horner s D n := by
  unfold num
  induction n with
  | zero => rfl
  | succ n ih =>
    simp only [sumTo, horner]
    rw [← ih, ← sumTo_mul]
    congr 1
    · apply sumTo_congr
      intro i hi
      rw [show n + 1 - 1 - i = (n - 1 - i) + 1 by omega, Nat.pow_succ, Int.natCast_mul, Int.mul_assoc]
    · rw [show n + 1 - 1 - n = 0 by omega]; simp

theorem horner_bound {s : Nat} {D : Nat → Int} {n : Nat} (hD : ∀ v, v < n → 0 ≤ D v ∧ D v < s) : 0 ≤ horner s D n ∧ horner s D n < ((s ^ n : Nat) : Int) := by
  induction n with
  | zero => simp [horner]
  | succ n ih =>
    have h1 := ih (fun v hv => hD v (by omega))
    have h2 := hD n (by omega)
    simp only [horner]
    have h3 : horner s D n * (s : Int) ≤ (((s ^ n : Nat) : Int) - 1) * (s : Int) := Int.mul_le_mul_of_nonneg_right (by omega) (by omega)
    have h4 : 0 ≤ horner s D n * (s : Int) := Int.mul_nonneg h1.1 (by omega)
    rw [Int.sub_mul, Int.one_mul] at h3
    rw [Nat.pow_succ, Int.natCast_mul]
    omega

theorem num_bound {s : Nat} {D : Nat → Int} {n : Nat} (hD : ∀ v, v < n → 0 ≤ D v ∧ D v < s) : 0 ≤ num s D n ∧ num s D n < ((s ^ n : Nat) : Int) := by
  rw [num_eq_horner]; exact horner_bound hD

/-- A digit put in the place of a zero. -/
theorem sumTo_put {f : Nat → Int} {u : Nat} {x : Int} {n : Nat} (hu : u < n) (h0 : f u = 0) : sumTo (fun v => if v = u then x else f v) n = sumTo f n + x := by
  induction n with
  | zero => omega
  | succ n ih =>
    simp only [sumTo]
    by_cases e : u = n
    · subst e
      rw [if_pos rfl, h0, sumTo_congr (g := f) (fun i hi => by rw [if_neg (by omega)])]
      omega
    · rw [ih (by omega), if_neg (by omega)]
      omega

theorem num_put {s : Nat} {D : Nat → Int} {u : Nat} {d : Int} {n : Nat} (hu : u < n) (h0 : D u = 0) : num s (fun v => if v = u then d else D v) n = num s D n + d * ((s ^ (n - 1 - u) : Nat) : Int) := by
  unfold num
  rw [← sumTo_put (f := fun v => D v * ((s ^ (n - 1 - v) : Nat) : Int)) hu (by simp [h0])]
  apply sumTo_congr
  intro i _
  by_cases e : i = u
  · subst e; simp
  · simp [e]

end Go.Tocsin

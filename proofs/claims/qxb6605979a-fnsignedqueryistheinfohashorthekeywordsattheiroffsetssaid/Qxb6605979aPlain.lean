/-
  PLAIN: a text cut at every space; joined texts.
-/
import Derived.Lib.Join
import Derived.Lib.Strings
namespace Go.Wire

/-- The bytes of a string. -/
def toL (b : ByteArray) : List UInt8 := b.data.toList

/-- Cut at every space byte. -/
def splitL : List UInt8 → List (List UInt8)
  | [] => [[]]
  | c :: r => if c = 32 then [] :: splitL r else
    match splitL r with
    | h :: t => (c :: h) :: t
    | [] => [[c]]

theorem splitL_ne (l : List UInt8) : splitL l ≠ [] := by
  cases l with
  | nil => simp [splitL]
  | cons c r =>
    simp only [splitL]
    split
    · simp
    · split <;> simp

theorem splitL_append (a b : List UInt8) : splitL (a ++ 32 :: b) = splitL a ++ splitL b := by
  induction a with
  | nil => simp [splitL]
  | cons c r ih =>
    simp only [List.cons_append, splitL, ih]
    by_cases hc : c = 32
    · simp [hc]
    · simp only [if_neg hc]
      cases h : splitL r with
      | nil => exact absurd h (splitL_ne r)
      | cons x t => simp

theorem splitL_plain (l : List UInt8) (h : ∀ c ∈ l, c ≠ 32) : splitL l = [l] := by
  induction l with
  | nil => rfl
  | cons c r ih =>
    simp only [splitL, if_neg (h c (by simp)), ih (fun x hx => h x (by simp [hx]))]

theorem splitL_length (l : List UInt8) : (splitL l).length ≤ l.length + 1 := by
  induction l with
  | nil => simp [splitL]
  | cons c r ih =>
    simp only [splitL]
    split
    · simp; omega
    · cases h : splitL r with
      | nil => exact absurd h (splitL_ne r)
      | cons x t => rw [h] at ih; simp at ih ⊢; omega

theorem join_cons (x y : List UInt8) (r : List (List UInt8)) (sep : List UInt8) : Lib.join (x :: y :: r) sep = x ++ (sep ++ Lib.join (y :: r) sep) := by
  simp [Lib.join, List.intercalate, List.intersperse]

/-- Cutting the joined text gives the pieces of each. -/
theorem split_join : ∀ (x : List UInt8) (r : List (List UInt8)), splitL (Lib.join (x :: r) [32]) = (x :: r).flatMap splitL
  | x, [] => by simp [Lib.join_one]
  | x, y :: r => by
    rw [join_cons]
    have := split_join y r
    rw [show x ++ ([32] ++ Lib.join (y :: r) [32]) = x ++ 32 :: Lib.join (y :: r) [32] by simp, splitL_append, this]
    simp

/-- How many bytes joined texts have. -/
theorem join_length : ∀ (x : List UInt8) (r : List (List UInt8)), (Lib.join (x :: r) [32]).length = ((x :: r).map List.length).sum + r.length
  | x, [] => by simp [Lib.join_one]
  | x, y :: r => by
    rw [join_cons]
    have := join_length y r
    simp only [List.length_append, List.length_cons, List.length_nil, List.map_cons, List.sum_cons] at this ⊢
    omega

/-- A piece without a space, then a space: one step of the cutting. -/
theorem split_step {l : List UInt8} {q k : Nat} (hq : q ≤ k) (hk : k < l.length) (hsp : l[k]? = some 32) (hno : ∀ j, q ≤ j → j < k → l[j]? ≠ some 32) :
    splitL (l.drop q) = ((l.drop q).take (k - q)) :: splitL (l.drop (k + 1)) := by
  have e : l.drop q = (l.drop q).take (k - q) ++ 32 :: l.drop (k + 1) := by
    have h1 : (l.drop q).drop (k - q) = l.drop k := by rw [List.drop_drop, show q + (k - q) = k by omega]
    have h2 : l.drop k = 32 :: l.drop (k + 1) := by
      rw [List.drop_eq_getElem_cons hk]
      have : l[k] = 32 := by simpa [hk] using hsp
      rw [this]
    rw [← h2, ← h1, List.take_append_drop]
  have hn : ∀ c ∈ (l.drop q).take (k - q), c ≠ 32 := by
    intro c hc h
    subst h
    obtain ⟨i, hi, he⟩ := List.getElem_of_mem hc
    simp at hi
    have he' : l[q + i]? = some 32 := by
      simp at he
      rw [List.getElem?_eq_getElem (by omega), he]
    exact hno (q + i) (by omega) (by omega) he'
  have : splitL (l.drop q) = splitL ((l.drop q).take (k - q) ++ 32 :: l.drop (k + 1)) := by rw [← e]
  rw [this, splitL_append, splitL_plain _ hn]
  rfl

theorem split_end {l : List UInt8} {q : Nat} (hno : ∀ j, q ≤ j → j < l.length → l[j]? ≠ some 32) : splitL (l.drop q) = [l.drop q] := by
  apply splitL_plain
  intro c hc h
  subst h
  obtain ⟨i, hi, he⟩ := List.getElem_of_mem hc
  simp at hi
  have he' : l[q + i]? = some 32 := by
    simp at he
    rw [List.getElem?_eq_getElem (by omega), he]
  exact hno (q + i) (by omega) (by omega) he'

theorem toL_extract (s : ByteArray) (q k : Nat) : toL (s.extract q k) = ((toL s).drop q).take (k - q) := Lib.extract_data s q k
theorem toL_length (s : ByteArray) : (toL s).length = s.size := by
  unfold toL
  simp
theorem toL_get (s : ByteArray) (k : Nat) (h : k < s.size) : (toL s)[k]? = some s[k] := by
  unfold toL
  rw [List.getElem?_eq_getElem (by simpa using h)]
  rfl

end Go.Wire

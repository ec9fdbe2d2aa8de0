/-
  PLAIN: a round of the equivocating Simulation is a step that the search has seen: the depth falls.
-/
import Derived.Test.Qxb6615056aFmtRun
import Derived.Test.Qxb6615056aFmtDom
namespace Go.Proofs.Qxb6615056aFmt
open Go.RowKit Go.Tocsin

theorem horner_ix {s : Nat} {D : Nat → Int} {d : Nat → Nat} : ∀ {n : Nat}, (∀ v, v < n → D v = (d v : Nat)) → horner s D n = (ix s d n : Nat)
  | 0, _ => rfl
  | n + 1, h => by
    simp only [horner, ix]
    rw [horner_ix (fun v hv => h v (by omega)), h n (by omega), Int.natCast_add, Int.natCast_mul]

/-- The states of the correct nodes, by rank. -/
def cfg (V : VP) (st : Nat → Int) : Nat → Nat := fun j => (st (nth V.fb false V.n j)).toNat
/-- The configuration's number. -/
def cno (V : VP) (st : Nat → Int) : Nat := ix V.s (cfg V st) V.m

section
variable {V : VP} {st : Nat → Int}

theorem cfg_eq (G : VG V) (h : StOk V.n V.s V.fb st) {j : Nat} (hj : j < V.m) : st (nth V.fb false V.n j) = (cfg V st j : Nat) ∧ cfg V st j < V.s := by
  have h1 := G.cor hj
  have h2 := h.c _ h1.1 h1.2
  unfold cfg
  omega
theorem cno_lt (G : VG V) (h : StOk V.n V.s V.fb st) : cno V st < V.C := by
  rw [G.hC]
  exact ix_lt (fun j hj => (cfg_eq G h hj).2)
theorem cno_dg (G : VG V) (h : StOk V.n V.s V.fb st) {j : Nat} (hj : j < V.m) : dg V.s V.m (cno V st) j = cfg V st j := dg_ix G.s1 (fun _ hq => (cfg_eq G h hq).2) j hj

theorem step_ss (G : VG V) (h : StOk V.n V.s V.fb st) : SS V (cno V st) (cno V (stepF V.n V.s V.nx V.fb st)) := by
  have hok' : StOk V.n V.s V.fb (stepF V.n V.s V.nx V.fb st) := stepF_ok h G.sh G.nxs
  refine ⟨cno_lt G hok', fun j hj => ?_⟩
  rw [cno_dg G hok' hj, can_congr G (fun q hq => cno_dg G h hq)]
  have h1 := G.cor hj
  have hr : cw V.fb false (nth V.fb false V.n j) = j := cw_nth (by rw [← G.hm]; exact hj)
  have hs := srcOf_lt (fb := V.fb) (n := V.n) (i := j) (by rw [← G.hm]; exact hj)
  have hx := h.c _ hs.1 hs.2
  obtain ⟨x, hxe⟩ : ∃ x : Nat, st (srcOf V.fb V.n j) = (x : Int) := ⟨(st (srcOf V.fb V.n j)).toNat, by omega⟩
  have hxs : x < V.s := by omega
  have ht : ix V.s (fun _ => x) V.ml < V.s ^ V.ml := ix_lt (fun _ _ => hxs)
  refine ⟨ix V.s (fun _ => x) V.ml, ht, ?_⟩
  have hsee : ∀ u, u < V.n → seenBy V.fb st (x : Int) u = (see V (cfg V st) (ix V.s (fun _ => x) V.ml) u : Nat) := fun u hu => by
    unfold seenBy see
    cases e : V.fb u
    · have hc := h.c u hu e
      have hn := nth_cw hu e
      simp only [Bool.false_eq_true, if_false]
      unfold cfg
      rw [hn]
      omega
    · have hl := cw_lt hu e
      rw [← G.hml] at hl
      simp only [if_true]
      rw [dg_ix G.s1 (fun _ _ => hxs) _ hl]
  unfold tgt cfg stepF
  rw [h1.2, hr, hxe]
  simp only [Bool.false_eq_true, if_false]
  rw [num_eq_horner, horner_ix hsee]
  simp only [Int.toNat_natCast]
  rfl

theorem good_sb (G : VG V) (h : StOk V.n V.s V.fb st) : goodC V (cno V st) = sbB V.m V.md (fun j => st (nth V.fb false V.n j)) := by
  unfold goodC
  rw [good_congr G (fun j hj => cno_dg G h hj)]
  have h0 := (cfg_eq G h G.m1).1
  unfold goodD sbB
  rw [decide_eq_decide]
  dsimp only
  rw [h0]
  constructor
  · rintro ⟨a, b⟩
    refine ⟨fun j hj => ?_, b⟩
    rw [(cfg_eq G h hj).1, a j hj]
  · rintro ⟨a, b⟩
    refine ⟨fun j hj => ?_, b⟩
    have := a j hj
    rw [(cfg_eq G h hj).1] at this
    omega

/-- A round more, and the depth has fallen. -/
theorem fall (G : VG V) (h : StOk V.n V.s V.fb st) {D : Nat → Int} (hD : Final V.C (SS V) (goodC V) D) (h0 : 0 ≤ D (cno V st)) (hg : goodC V (cno V st) = false) :
    0 ≤ D (cno V (stepF V.n V.s V.nx V.fb st)) ∧ D (cno V (stepF V.n V.s V.nx V.fb st)) + 1 ≤ D (cno V st) := by
  rcases hD.bad _ (cno_lt G h) hg with ⟨e, _⟩ | ⟨_, e, _⟩
  · omega
  · exact e _ (step_ss G h)
end
end Go.Proofs.Qxb6615056aFmt

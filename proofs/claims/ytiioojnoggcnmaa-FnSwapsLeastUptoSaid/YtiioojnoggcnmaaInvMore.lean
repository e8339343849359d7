/-
  What is proved here: plain laws on pairs in the wrong order: from the end on, two neighbours exchanged, none at all; no condition.
-/
import Derived.Test.YtiioojnoggcnmaaOver
import Derived.Test.YtiioojnoggcnmaaAscPlain
namespace Go.Proofs.Ytiioojnoggcnmaa
set_option linter.unusedVariables false

/-- How many pairs are equal, counted as the law counts them. -/
def eqs : List Int → Nat
  | [] => 0
  | x :: r => r.countP (fun y => decide (y = x)) + eqs r
theorem eqs_snoc (l : List Int) (v : Int) : eqs (l ++ [v]) = eqs l + l.countP (fun y => decide (y = v)) := by
  induction l with
  | nil => simp [eqs]
  | cons x r ih =>
    simp only [List.cons_append, eqs, List.countP_append, List.countP_cons, ih]
    by_cases h : x = v
    · subst h; simp; omega
    · have h2 : ¬ v = x := fun e => h e.symm
      simp [h, h2]; omega
theorem three_counts (l : List Int) (v : Int) : l.countP (fun y => decide (v < y)) + l.countP (fun y => decide (y < v)) + l.countP (fun y => decide (y = v)) = l.length := by
  induction l with
  | nil => rfl
  | cons y r ih =>
    simp only [List.countP_cons, List.length_cons]
    rcases Int.lt_trichotomy y v with a | a | a
    · have b : ¬ v < y := by omega
      have c : ¬ y = v := by omega
      simp [a, b, c]; omega
    · subst a; simp; omega
    · have b : ¬ y < v := by omega
      have c : ¬ y = v := by omega
      simp [a, b, c]; omega
theorem inv_mirror (x : List Int) : 2 * (inv x + inv x.reverse + eqs x) = x.length * (x.length - 1) := by
  induction x with
  | nil => simp [inv, eqs]
  | cons a r ih =>
    rw [List.reverse_cons, inv_snoc, List.countP_reverse]
    simp only [inv, eqs, List.length_cons, Nat.add_sub_cancel]
    have h := three_counts r a
    have h2 : (r.length + 1) * r.length = r.length * (r.length - 1) + 2 * r.length := by
      cases hr : r.length with
      | zero => rfl
      | succ n =>
        simp only [Nat.add_sub_cancel, Nat.add_mul, Nat.mul_add]
        omega
    omega
theorem eqs_le (x : List Int) : eqs x ≤ x.length * x.length := by
  induction x with
  | nil => simp [eqs]
  | cons a r ih =>
    have h : r.countP (fun y => decide (y = a)) ≤ r.length := List.countP_le_length
    simp only [eqs, List.length_cons, Nat.add_mul, Nat.mul_add]
    omega
theorem inv_zero {x : List Int} : inv x = 0 ↔ Asc x := by
  induction x with
  | nil => simp [inv, Asc]
  | cons a r ih =>
    unfold Asc at *
    simp only [inv, List.pairwise_cons]
    constructor
    · intro h
      refine ⟨fun y hy => ?_, ih.1 (by omega)⟩
      have h1 : r.countP (fun y => decide (y < a)) = 0 := by omega
      have := List.countP_eq_zero.1 h1 y hy
      simpa using this
    · rintro ⟨h1, h2⟩
      have h3 : r.countP (fun y => decide (y < a)) = 0 := List.countP_eq_zero.2 (fun y hy => by simpa using h1 y hy)
      have := ih.2 h2
      omega
theorem asc_iff {x : List Int} : asc x = x ↔ Asc x := by
  constructor
  · intro h; rw [← h]; exact asc_asc x
  · intro h; exact (asc_eq h (List.Perm.refl _)).symm
theorem perm_sum {a b : List Int} (h : a.Perm b) : a.sum = b.sum := by
  induction h with
  | nil => rfl
  | cons x _ ih => simp [ih]
  | swap x y l => simp; omega
  | trans _ _ ih1 ih2 => exact ih1.trans ih2
/-- Two neighbours exchanged. -/
theorem inv_swap (a b : List Int) (p q : Int) : (inv (a ++ [q, p] ++ b) : Int) - (inv (a ++ [p, q] ++ b) : Int) = (if p < q then 1 else 0) - (if q < p then 1 else 0) := by
  have hover : ∀ x y z : List Int, y.Perm z → (over x y).sum = (over x z).sum := fun x y z h => by unfold over; exact perm_sum (h.map _)
  have hover2 : ∀ x y z : List Int, x.Perm y → over x z = over y z := fun x y z h => by
    unfold over
    apply List.map_congr_left
    intro v _
    rw [h.countP_eq]
  have hp : [q, p].Perm [p, q] := List.Perm.swap p q []
  have h1 := inv_append (a ++ [q, p]) b
  have h2 := inv_append (a ++ [p, q]) b
  have h3 := inv_append a [q, p]
  have h4 := inv_append a [p, q]
  rw [hover a [q, p] [p, q] hp] at h3
  rw [hover2 _ _ b (hp.append_left a)] at h1
  have h5 : inv [q, p] = if p < q then 1 else 0 := by simp [inv]
  have h6 : inv [p, q] = if q < p then 1 else 0 := by simp [inv]
  rw [h5] at h3
  rw [h6] at h4
  split at h3 <;> split at h4 <;> simp_all <;> omega

end Go.Proofs.Ytiioojnoggcnmaa

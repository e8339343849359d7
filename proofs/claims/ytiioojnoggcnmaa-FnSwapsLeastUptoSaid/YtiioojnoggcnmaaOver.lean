/-
  What is proved here: plain facts on pairs in the wrong order of two lists, one behind the other; no condition.
-/
import Derived.Test.YtiioojnoggcnmaaPlain
namespace Go.Proofs.Ytiioojnoggcnmaa
set_option linter.unusedVariables false

/-- For each number of y how many of x are greater. -/
def over (x y : List Int) : List Int := y.map fun v => ((x.countP fun z => decide (v < z) : Nat) : Int)
theorem inv_append (x y : List Int) : (inv (x ++ y) : Int) = (inv x : Int) + (inv y : Int) + (over x y).sum := by
  induction x with
  | nil =>
    have : (over [] y).sum = 0 := by
      unfold over
      induction y with
      | nil => rfl
      | cons v r ih => simpa using ih
    simp [inv, this]
  | cons a r ih =>
    simp only [List.cons_append, inv, List.countP_append]
    have h : (over (a :: r) y).sum = (over r y).sum + ((y.countP fun v => decide (v < a) : Nat) : Int) := by
      unfold over
      clear ih
      induction y with
      | nil => rfl
      | cons v s ihs =>
        simp only [List.map_cons, List.sum_cons, List.countP_cons] at ihs ⊢
        by_cases hv : v < a
        · simp [hv] at ihs ⊢; omega
        · simp [hv] at ihs ⊢; omega
    rw [h]
    omega
theorem over_len (x y : List Int) : (over x y).length = y.length := by simp [over]
theorem over_bounds (x y : List Int) (j : Nat) : 0 ≤ ((over x y).take j).sum ∧ ((over x y).take j).sum ≤ (x.length : Int) * (y.length : Int) := by
  unfold over
  rw [← List.map_take]
  have h : ∀ l : List Int, 0 ≤ (l.map fun v => ((x.countP fun z => decide (v < z) : Nat) : Int)).sum ∧ (l.map fun v => ((x.countP fun z => decide (v < z) : Nat) : Int)).sum ≤ (x.length : Int) * (l.length : Int) := by
    intro l
    induction l with
    | nil => simp
    | cons v r ih =>
      have h1 : (x.countP fun z => decide (v < z)) ≤ x.length := List.countP_le_length
      simp only [List.map_cons, List.sum_cons, List.length_cons]
      have : (x.length : Int) * ((r.length + 1 : Nat) : Int) = (x.length : Int) * (r.length : Int) + (x.length : Int) := by
        rw [Int.natCast_add, Int.mul_add]; simp
      rw [this]
      omega
  obtain ⟨h1, h2⟩ := h (y.take j)
  refine ⟨h1, Int.le_trans h2 ?_⟩
  have h3 : (y.take j).length ≤ y.length := by rw [List.length_take]; omega
  exact Int.mul_le_mul_of_nonneg_left (by omega) (by omega)
theorem sum_take {l : List Int} {j : Nat} {x : Int} (h : l[j]? = some x) : (l.take (j + 1)).sum = (l.take j).sum + x := by
  rw [List.take_add_one, h, List.sum_append]
  simp
theorem inv_bound (x : List Int) (n : Nat) (h : x.length ≤ n) : inv x ≤ n * n := Nat.le_trans (inv_le x) (Nat.mul_le_mul h h)

end Go.Proofs.Ytiioojnoggcnmaa

/-
  What is proved here: plain facts on the ascending list of some numbers: it is the one ascending permutation, and what stands at an index of it; no condition.
-/
import Derived.Test.YtiioojnoggcnmaaPlain
namespace Go.Proofs.Ytiioojnoggcnmaa
set_option linter.unusedVariables false

/-- The numbers in ascending order. -/
def asc (l : List Int) : List Int := l.mergeSort (fun a b => decide (a ≤ b))

theorem asc_perm (l : List Int) : (asc l).Perm l := List.mergeSort_perm l _
theorem asc_asc (l : List Int) : Asc (asc l) := by
  have h := List.pairwise_mergeSort (le := fun a b : Int => decide (a ≤ b)) (fun a b c h1 h2 => by simp at *; omega) (fun a b => by simp; omega) l
  exact h.imp (fun {a b} hab => by simpa using hab)
theorem asc_unique {a b : List Int} (ha : Asc a) (hb : Asc b) (h : a.Perm b) : a = b :=
  h.eq_of_pairwise (fun x y _ _ h1 h2 => Int.le_antisymm h1 h2) ha hb
theorem asc_eq {a l : List Int} (ha : Asc a) (h : a.Perm l) : a = asc l := asc_unique ha (asc_asc l) (h.trans (asc_perm l).symm)
theorem asc_len (l : List Int) : (asc l).length = l.length := (asc_perm l).length_eq

/-- More than k numbers are at most t just if the one at the index k is. -/
theorem count_gt {A : List Int} (hA : Asc A) {k : Nat} {x : Int} (hk : A[k]? = some x) (t : Int) : k < A.countP (fun y => decide (y ≤ t)) ↔ x ≤ t := by
  have hkl := (List.getElem?_eq_some_iff.1 hk).1
  constructor
  · intro h
    by_cases hge : x ≤ t
    · exact hge
    · exfalso
      have h1 : A.countP (fun y => decide (y ≤ t)) = (A.take k).countP (fun y => decide (y ≤ t)) + (A.drop k).countP (fun y => decide (y ≤ t)) := by rw [← List.countP_append, List.take_append_drop]
      have h2 : (A.drop k).countP (fun y => decide (y ≤ t)) = 0 := List.countP_eq_zero.2 (fun y hy => by
        obtain ⟨j, hj, hyj⟩ := mem_drop_get hy
        have := asc_get hA hj hk hyj
        simp
        omega)
      have h3 : (A.take k).countP (fun y => decide (y ≤ t)) ≤ (A.take k).length := List.countP_le_length
      have h4 : (A.take k).length ≤ k := List.length_take_le _ _
      omega
  · intro h
    have h1 : A.countP (fun y => decide (y ≤ t)) = (A.take (k + 1)).countP (fun y => decide (y ≤ t)) + (A.drop (k + 1)).countP (fun y => decide (y ≤ t)) := by rw [← List.countP_append, List.take_append_drop]
    have h2 : (A.take (k + 1)).countP (fun y => decide (y ≤ t)) = (A.take (k + 1)).length := List.countP_eq_length.2 (fun y hy => by
      obtain ⟨j, hj, hyj⟩ := mem_take_get hy
      have := asc_get hA (show j ≤ k by omega) hyj hk
      simp
      omega)
    have h3 : (A.take (k + 1)).length = k + 1 := by rw [List.length_take]; omega
    omega

end Go.Proofs.Ytiioojnoggcnmaa

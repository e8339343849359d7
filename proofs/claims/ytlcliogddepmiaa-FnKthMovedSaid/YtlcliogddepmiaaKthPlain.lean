/-
  What is proved here: plain facts on the sorted list of numbers with the opposite signs, and of numbers that are moved by as much; no condition.
-/
import Derived.Test.YtlcliogddepmiaaAscPlain
namespace Go.Proofs.Ytlcliogddepmiaa
set_option linter.unusedVariables false

theorem asc_neg (l : List Int) : asc (l.map fun v => -v) = ((asc l).map fun v => -v).reverse := by
  refine (asc_eq ?_ ?_).symm
  · unfold Asc
    rw [List.pairwise_reverse, List.pairwise_map]
    exact (asc_asc l).imp (fun h => by omega)
  · exact (List.reverse_perm _).trans ((asc_perm l).map _)
theorem asc_move (l : List Int) (d : Int) : asc (l.map fun v => v + d) = (asc l).map fun v => v + d := by
  refine (asc_eq ?_ ?_).symm
  · unfold Asc
    rw [List.pairwise_map]
    exact (asc_asc l).imp (fun h => by omega)
  · exact (asc_perm l).map _
theorem getD_neg_rev {l : List Int} {k : Nat} (h : k < l.length) : ((l.map fun v => -v).reverse).getD (l.length - 1 - k) 0 = -(l.getD k 0) := by
  rw [List.getD_eq_getElem?_getD, List.getElem?_reverse (by simp; omega), List.length_map, List.getElem?_map, List.getD_eq_getElem?_getD]
  rw [show l.length - 1 - (l.length - 1 - k) = k by omega, List.getElem?_eq_getElem h]
  rfl
theorem getD_move {l : List Int} {k : Nat} {d : Int} (h : k < l.length) : (l.map fun v => v + d).getD k 0 = l.getD k 0 + d := by
  rw [List.getD_eq_getElem?_getD, List.getElem?_map, List.getD_eq_getElem?_getD, List.getElem?_eq_getElem h]
  rfl

end Go.Proofs.Ytlcliogddepmiaa

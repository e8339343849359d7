/-
  What is proved here: plain facts for FnRowsKeys: the keys of sorted rows are the sorted keys; how often a row stands in a list; no condition.
-/
import Derived.Test.YtiioojnoggcnmaaRowsPlain
namespace Go.Proofs.Ytiioojnoggcnmaa
open Go.Sort
set_option linter.unusedVariables false

theorem rows_keys (l : List (Int × Int × Int)) (z : Int) : (rsort l [z]).map (keyOf (z % 3).toNat) = asc (l.map (keyOf (z % 3).toNat)) := by
  refine asc_eq ?_ ((rsort_perm l [z]).map _)
  unfold Asc
  rw [List.pairwise_map]
  have h : rsort l [z] = ssort (z % 3).toNat l := rfl
  rw [h]
  refine ((ssort_is (z % 3).toNat l).sorted (swo_ltKey _)).imp ?_
  intro x y hxy
  simp [ltKey] at hxy
  omega
def cntR (l : List (Int × Int × Int)) (s : Int × Int × Int) : Nat := l.countP fun x => decide (x = s)
theorem cntR_take {l : List (Int × Int × Int)} {k : Nat} {x s : Int × Int × Int} (h : l[k]? = some x) : cntR (l.take (k + 1)) s = cntR (l.take k) s + (if x = s then 1 else 0) := by
  unfold cntR
  rw [List.take_add_one, h, List.countP_append]
  simp [List.countP_cons]
theorem cntR_perm {a b : List (Int × Int × Int)} (h : a.Perm b) (s : Int × Int × Int) : cntR a s = cntR b s := h.countP_eq _
theorem cntR_le (l : List (Int × Int × Int)) (s : Int × Int × Int) : cntR l s ≤ l.length := List.countP_le_length
theorem map_take3 {l : List (Int × Int × Int)} {f : Int × Int × Int → Int} {j : Nat} {x : Int × Int × Int} (h : l[j]? = some x) : (l.take (j + 1)).map f = (l.take j).map f ++ [f x] := by
  rw [List.take_add_one, h, List.map_append]
  rfl

end Go.Proofs.Ytiioojnoggcnmaa

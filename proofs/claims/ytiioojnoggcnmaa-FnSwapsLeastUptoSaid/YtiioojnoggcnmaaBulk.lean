/-
  What is proved here: how many elements a slice of a given bulk has at most; no condition.
-/
import Derived.Test.YtiioojnoggcnmaaRows
namespace Go.Proofs.Ytiioojnoggcnmaa
set_option linter.unusedVariables false

theorem bulk_pos {H : Type} (d : DataW H) : 1 ≤ Rows.uptoBulk d := by
  unfold Rows.uptoBulk
  split <;> omega
theorem bulk_all {H : Type} (ds : List (DataW H)) : ds.length ≤ Rows.uptoBulkAll ds := by
  induction ds with
  | nil => simp
  | cons d r ih =>
    have := bulk_pos d
    simp only [Rows.uptoBulkAll, List.length_cons]
    omega
theorem bulk_slice {H : Type} (elems spare : List (DataW H)) : elems.length + 1 ≤ Rows.uptoBulk (.slice elems spare) := by
  have h := bulk_all elems
  simp only [Rows.uptoBulk]
  omega

end Go.Proofs.Ytiioojnoggcnmaa

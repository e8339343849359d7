/-
  What is proved here: plain facts on the remainder by a million with the sign of the number, and on the number at an index of the sorted remainders; no condition.
-/
import Derived.Test.YtlcliogddepmiaaKth
import Derived.Test.YtlcliogddepmiaaKthPlain
namespace Go.Proofs.Ytlcliogddepmiaa
set_option linter.unusedVariables false

theorem sml_id {v : Int} (h1 : -1000000 < v) (h2 : v < 1000000) : sml v = v := by
  unfold sml
  rcases Int.le_total 0 v with h | h
  · rw [Int.tmod_eq_emod_of_nonneg h]; omega
  · have h3 : (-(-v)).tmod 1000000 = -((-v).tmod 1000000) := Int.neg_tmod _ _
    have h4 : (-v).tmod 1000000 = (-v) % 1000000 := Int.tmod_eq_emod_of_nonneg (by omega)
    rw [Int.neg_neg, h4] at h3
    rw [h3]
    omega
theorem sml_neg (v : Int) : sml (-sml v) = -sml v := by
  have := sml_bounds v
  exact sml_id (by omega) (by omega)
theorem kth_opposite {xs : List Int} {k : Nat} (h : k < xs.length) : kthOf (xs.map fun v => -sml v) (xs.length - 1 - k) = -kthOf xs k := by
  unfold kthOf
  have e : (xs.map fun v => -sml v).map sml = (xs.map sml).map fun v => -v := by
    rw [List.map_map, List.map_map]
    apply List.map_congr_left
    intro v _
    exact sml_neg v
  have hl : (asc (xs.map sml)).length = xs.length := by rw [asc_len, List.length_map]
  rw [e, asc_neg, ← hl]
  exact getD_neg_rev (by rw [hl]; exact h)
theorem kth_moved {xs : List Int} {k : Nat} {d : Int} (h : k < xs.length) (hx : ∀ v ∈ xs, -400000 ≤ v ∧ v ≤ 400000) (h1 : -400000 < d) (h2 : d < 400000) : kthOf (xs.map fun v => v + d) k = kthOf xs k + d := by
  unfold kthOf
  have e1 : xs.map sml = xs := by
    conv => rhs; rw [← List.map_id xs]
    apply List.map_congr_left
    intro v hv
    have := hx v hv
    exact sml_id (by omega) (by omega)
  have e2 : (xs.map fun v => v + d).map sml = xs.map fun v => v + d := by
    rw [List.map_map]
    apply List.map_congr_left
    intro v hv
    have := hx v hv
    exact sml_id (by show -1000000 < v + d; omega) (by show v + d < 1000000; omega)
  rw [e2, e1, asc_move]
  exact getD_move (by rw [asc_len]; exact h)
theorem kth_bounds (xs : List Int) (k : Nat) : -999999 ≤ kthOf xs k ∧ kthOf xs k ≤ 999999 := by
  unfold kthOf
  rw [List.getD_eq_getElem?_getD]
  cases h : (asc (xs.map sml))[k]? with
  | none => simp
  | some y =>
    have hm := (asc_perm _).mem_iff.1 (List.mem_of_getElem? h)
    rw [List.mem_map] at hm
    obtain ⟨v, _, rfl⟩ := hm
    exact sml_bounds v

end Go.Proofs.Ytlcliogddepmiaa

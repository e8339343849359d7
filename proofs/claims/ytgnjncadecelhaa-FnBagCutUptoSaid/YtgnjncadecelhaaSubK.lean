/-
  What is proved here: a part of a slice of structs that reads as a list reads as that part of the list; no condition.
-/
import Derived.Test.YtgnjncadecelhaaOutK
namespace Go.Proofs.Ytgnjncadecelhaa
open Go.RowKit
set_option linter.unusedVariables false

theorem Ros2.dropAt {w : World} {b off n c i : Nat} {xs : List (Int × Int)} (h : Ros2 w (.slice (some ⟨b, off, none⟩) n c) xs) (hi : i ≤ n) (hc : c ≠ i) : Ros2 w (.slice (some ⟨b, off + i * 2, none⟩) (n - i) (c - i)) (xs.drop i) := by
  obtain ⟨A, c', b', off', h1, h2, h3, h4, h5⟩ := h
  simp only [Value.slice.injEq] at h1
  obtain ⟨rfl, rfl, rfl⟩ := h1
  simp only [List.length_map] at *
  refine ⟨_, c - i, b', off' + i * 2, by rw [List.length_map, List.length_drop], by rw [List.length_map, List.length_drop]; omega, by omega, fun hp => ?_, fun k x j y hx hj hy => ?_⟩
  · rw [List.length_map, List.length_drop] at hp
    obtain ⟨e, hb⟩ := h4 (by omega)
    simp only [Option.some.injEq, Addr.mk.injEq, and_true] at e
    obtain ⟨rfl, rfl⟩ := e
    exact ⟨rfl, hb⟩
  · rw [List.map_drop, List.getElem?_drop] at hx
    have := h5 (i + k) x j y hx hj hy
    rw [show off' + i * 2 + k * 2 + j = off' + (i + k) * 2 + j by omega]
    exact this
theorem Ros2.takeAt {w : World} {A : Option Addr} {n c i : Nat} {xs : List (Int × Int)} (h : Ros2 w (.slice A n c) xs) (hi : i ≤ n) : Ros2 w (.slice A i c) (xs.take i) := by
  obtain ⟨A', c', b', off', h1, h2, h3, h4, h5⟩ := h
  simp only [Value.slice.injEq] at h1
  obtain ⟨rfl, rfl, rfl⟩ := h1
  simp only [List.length_map] at *
  have hl : (xs.take i).length = i := by rw [List.length_take]; omega
  refine ⟨A, c, b', off', by rw [List.length_map, hl], by rw [List.length_map, hl]; omega, h3, fun hp => h4 (by rw [List.length_map, hl] at hp; omega), fun k x j y hx hj hy => ?_⟩
  rw [List.map_take, List.getElem?_take] at hx
  split at hx
  · exact h5 k x j y hx hj hy
  · cases hx
/-- An empty part. -/
theorem ros2_none (w : World) (A : Option Addr) (c : Nat) (hc : c ≤ maxLen) {xs : List (Int × Int)} (h : xs.length = 0) : Ros2 w (.slice A 0 c) xs := by
  have : xs = [] := List.eq_nil_of_length_eq_zero h
  subst this
  exact ⟨A, c, 0, 0, rfl, Nat.zero_le _, hc, fun h => absurd h (by simp), fun i x j y hx => by simp at hx⟩
theorem Ros2.some {w : World} {A : Option Addr} {n c : Nat} {xs : List (Int × Int)} (h : Ros2 w (.slice A n c) xs) (hn : 0 < n) : ∃ b off, A = some ⟨b, off, none⟩ := by
  obtain ⟨A', c', b', off', h1, h2, h3, h4, h5⟩ := h
  simp only [Value.slice.injEq] at h1
  obtain ⟨rfl, rfl, rfl⟩ := h1
  obtain ⟨rfl, _⟩ := h4 hn
  exact ⟨b', off', rfl⟩
theorem Ros2.capLe {w : World} {A : Option Addr} {n c : Nat} {xs : List (Int × Int)} (h : Ros2 w (.slice A n c) xs) : c ≤ maxLen := by
  obtain ⟨A', c', b', off', h1, h2, h3, h4, h5⟩ := h
  simp only [Value.slice.injEq] at h1
  omega

end Go.Proofs.Ytgnjncadecelhaa

/-
  What is proved here: a part of a slice that reads as a list reads as that part of the list; no condition.
-/
import Derived.Test.YtpkdjdofbedncaaWf
namespace Go.Proofs.Ytpkdjdofbedncaa
open Go.RowKit
set_option linter.unusedVariables false

theorem Ro.dropAt {w : World} {b off n c i : Nat} {xs : List Int} (h : Ro w (.slice (some ⟨b, off, none⟩) n c) xs) (hi : i ≤ n) : Ro w (.slice (if c = i then some ⟨b, off, none⟩ else some ⟨b, off + i, none⟩) (n - i) (c - i)) (xs.drop i) := by
  obtain ⟨A, c', b', off', h1, h2, h3, h4, h5⟩ := h
  simp only [Value.slice.injEq] at h1
  obtain ⟨rfl, rfl, rfl⟩ := h1
  refine ⟨_, c - i, b', off' + i, by rw [List.length_drop], by rw [List.length_drop]; omega, by omega, fun hp => ?_, fun k x hx => ?_⟩
  · rw [List.length_drop] at hp
    obtain ⟨e, hb⟩ := h4 (by omega)
    rw [if_neg (by omega)]
    simp only [Option.some.injEq, Addr.mk.injEq, and_true] at e
    obtain ⟨rfl, rfl⟩ := e
    exact ⟨rfl, hb⟩
  · rw [List.getElem?_drop] at hx
    have := h5 (i + k) x hx
    rwa [← Nat.add_assoc] at this
theorem Ro.takeAt {w : World} {A : Option Addr} {n c i : Nat} {xs : List Int} (h : Ro w (.slice A n c) xs) (hi : i ≤ n) : Ro w (.slice A i c) (xs.take i) := by
  obtain ⟨A', c', b', off', h1, h2, h3, h4, h5⟩ := h
  simp only [Value.slice.injEq] at h1
  obtain ⟨rfl, rfl, rfl⟩ := h1
  have hl : (xs.take i).length = i := by rw [List.length_take]; omega
  refine ⟨A, c, b', off', by rw [hl], by rw [hl]; omega, h3, fun hp => h4 (by rw [hl] at hp; omega), fun k x hx => ?_⟩
  rw [List.getElem?_take] at hx
  split at hx
  · exact h5 k x hx
  · cases hx

end Go.Proofs.Ytpkdjdofbedncaa

/-
  What is proved here: the bounds of an integer that a variable can hold; reading one element of a slice; no condition.
-/
import Derived.Test.YtiioojnoggcnmaaOut
namespace Go.Proofs.Ytiioojnoggcnmaa
open Go.RowKit
set_option linter.unusedVariables false

theorem wf_bounds {x : Int} (h : (Lit.int .i64 x).wf = true) : -9223372036854775808 ≤ x ∧ x ≤ 9223372036854775807 := by
  simpa [Lit.wf, IntKind.min, IntKind.max, IntKind.signed, IntKind.bits] using h
theorem wf_of_bounds {x : Int} (h1 : -9223372036854775808 ≤ x) (h2 : x ≤ 9223372036854775807) : (Lit.int .i64 x).wf = true := by
  simp [Lit.wf, IntKind.min, IntKind.max, IntKind.signed, IntKind.bits]
  omega
/-- The list's elements fit. -/
def Wfs (xs : List Int) : Prop := ∀ x ∈ xs, (Lit.int .i64 x).wf = true
theorem Ro.at {w : World} {A : Option Addr} {n c k : Nat} {xs : List Int} {x : Int} (h : Ro w (.slice A n c) xs) (hk : xs[k]? = some x) :
    ∃ b off, A = some ⟨b, off, none⟩ ∧ w.cell? ⟨b, off + k, none⟩ = some (.int .i64 x) ∧ b < w.heap.size := by
  obtain ⟨A', c', b, off, h1, h2, h3, h4, h5⟩ := h
  simp only [Value.slice.injEq] at h1
  obtain ⟨rfl, rfl, rfl⟩ := h1
  have hl : 0 < xs.length := by have := (List.getElem?_eq_some_iff.1 hk).1; omega
  obtain ⟨rfl, hb⟩ := h4 hl
  exact ⟨b, off, rfl, h5 k x hk, hb⟩
theorem below_drawn {B : Nat} {w w' : World} (h : Below B w w') (q : Nat) : Below B w (w'.drewN q) := ⟨h.os, h.tape, h.output, h.size, h.block⟩
theorem get_some {l : List Int} {k n : Nat} (hn : n = l.length) (h : k < n) : ∃ x, l[k]? = some x := ⟨l[k]'(by omega), List.getElem?_eq_getElem _⟩

end Go.Proofs.Ytiioojnoggcnmaa

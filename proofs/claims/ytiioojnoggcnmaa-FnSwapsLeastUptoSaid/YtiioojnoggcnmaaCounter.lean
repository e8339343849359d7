/-
  What is proved here: the methods Len, Less and Swap of the thin package's counter, at a list in memory; no condition.
-/
import Derived.Test.YtiioojnoggcnmaaOwn
import Derived.Deep.QuietTactic
import Derived.BigQuiet
import Derived.BigRegion
namespace Go.Proofs.Ytiioojnoggcnmaa
open Go.RowKit
set_option linter.unusedVariables false

set_option maxHeartbeats 2000000 in
theorem len_cnt (cb n : Nat) (v : Option Addr) (cap : Nat) (W : World) (h0 : W.cell? ⟨cb, 0, none⟩ = some (.slice v n cap)) :
    Calls Try.prog 121 #[.pointer (some ⟨cb, 0, none⟩)] W fun e w' => e = .returned (.int .i64 (n : Int)) ∧ w' = W := by
  go_enter Try.func121, Try.ntmps121
  go_wp2
  go_ret
  exact ⟨rfl, rfl⟩

set_option maxHeartbeats 2000000 in
theorem less_cnt (g cap cb n : Nat) (W : World) (G : Nat → Int) (h0 : W.cell? ⟨cb, 0, none⟩ = some (.slice (some ⟨g, 0, none⟩) n cap))
    (hc : ∀ t, t < n → W.cell? ⟨g, t, none⟩ = some (.int .i64 (G t))) (i j : Nat) (hi : i < n) (hj : j < n) (hn : n < 4611686018427387904) :
    Calls Try.prog 122 #[.pointer (some ⟨cb, 0, none⟩), .int .i64 i, .int .i64 j] W fun e w' => e = .returned (.bool (decide (G i < G j))) ∧ ∃ q, w' = W.drewN q := by
  have ci := hc i hi
  have cj := hc j hj
  clear hc
  go_enter Try.func122, Try.ntmps122
  go_wp2
  go_quiet (fail)
  go_wp2
  go_ret
  exact ⟨rfl, nq, rfl⟩

set_option maxHeartbeats 16000000 in
set_option maxRecDepth 1000000 in
theorem swap_cnt (g cap cb n : Nat) (W : World) (z xi xj : Int) (i j : Nat) (hi : i < n) (hj : j < n) (hn : n < 4611686018427387904) (h0 : W.cell? ⟨cb, 0, none⟩ = some (.slice (some ⟨g, 0, none⟩) n cap)) (h1 : W.cell? ⟨cb, 1, none⟩ = some (.int .i64 z)) (f1 : W.frozen? ⟨cb, 1, none⟩ = false)
    (ci : W.cell? ⟨g, i, none⟩ = some (.int .i64 xi)) (cj : W.cell? ⟨g, j, none⟩ = some (.int .i64 xj)) (fi : W.frozen? ⟨g, i, none⟩ = false) (fj : W.frozen? ⟨g, j, none⟩ = false) (hne : cb ≠ g) (hij : i ≠ j) :
    Calls Try.prog 123 #[.pointer (some ⟨cb, 0, none⟩), .int .i64 i, .int .i64 j] W fun e w' => e = .returned (.tuple #[]) ∧
      ∃ q, w' = (((W.setCell ⟨cb, 1, none⟩ (.int .i64 (wrap64 (z + 1)))).setCell ⟨g, i, none⟩ (.int .i64 xj)).setCell ⟨g, j, none⟩ (.int .i64 xi)).drewN q := by
  have hijz : ¬ (i : Int) = (j : Int) := by omega
  have hijb : ((i : Int) != (j : Int)) = true := by simp; omega
  obtain ⟨v, hv⟩ : ∃ v, v = wrap64 (z + 1) := ⟨_, rfl⟩
  rw [← hv]
  have o0 : ∀ k, (⟨cb, 1, none⟩ : Addr) ≠ ⟨g, k, none⟩ := fun k e => by simp only [Addr.mk.injEq, and_true] at e; omega
  obtain ⟨wq, hwq⟩ : ∃ wq, wq = W.setCell ⟨cb, 1, none⟩ (.int .i64 v) := ⟨_, rfl⟩
  have h0' : wq.cell? ⟨cb, 0, none⟩ = some (.slice (some ⟨g, 0, none⟩) n cap) := by rw [hwq, World.cell?_setCell_other _ _ _ _ (fun e => by simp at e)]; exact h0
  have ci' : wq.cell? ⟨g, i, none⟩ = some (.int .i64 xi) := by rw [hwq, World.cell?_setCell_other _ _ _ _ (o0 _)]; exact ci
  have cj' : wq.cell? ⟨g, j, none⟩ = some (.int .i64 xj) := by rw [hwq, World.cell?_setCell_other _ _ _ _ (o0 _)]; exact cj
  have fi' : wq.frozen? ⟨g, i, none⟩ = false := by rw [hwq]; simpa using fi
  have fj' : wq.frozen? ⟨g, j, none⟩ = false := by rw [hwq]; simpa using fj
  go_enter Try.func123, Try.ntmps123
  go_wp2
  rw [← hv, ← hwq]
  have HWQ := Lib.hid hwq
  clear hwq hv h0 h1 ci cj fi fj f1 o0
  go_region
  go_wp2
  go_end0
  exact ⟨rfl, 1, by rw [HWQ.out]; rfl⟩

set_option maxHeartbeats 16000000 in
set_option maxRecDepth 1000000 in
theorem swap_same (g cap cb n : Nat) (W : World) (xi : Int) (i : Nat) (hi : i < n) (hn : n < 4611686018427387904) (h0 : W.cell? ⟨cb, 0, none⟩ = some (.slice (some ⟨g, 0, none⟩) n cap))
    (ci : W.cell? ⟨g, i, none⟩ = some (.int .i64 xi)) (fi : W.frozen? ⟨g, i, none⟩ = false) (hne : cb ≠ g) :
    Calls Try.prog 123 #[.pointer (some ⟨cb, 0, none⟩), .int .i64 i, .int .i64 i] W fun e w' => e = .returned (.tuple #[]) ∧
      ∃ q, w' = ((W.setCell ⟨g, i, none⟩ (.int .i64 xi)).setCell ⟨g, i, none⟩ (.int .i64 xi)).drewN q := by
  go_enter Try.func123, Try.ntmps123
  go_wp2
  go_region
  go_wp2
  go_end0
  exact ⟨rfl, 1, rfl⟩

end Go.Proofs.Ytiioojnoggcnmaa

/-
  What is proved here: the contract of the laws' helper sameRows (equal lists); no condition.
-/
import Derived.Test.YtiioojnoggcnmaaSortRows
import Derived.Test.YtiioojnoggcnmaaWf
namespace Go.Proofs.Ytiioojnoggcnmaa
open Go.RowKit
set_option linter.unusedVariables false

set_option maxHeartbeats 1000000 in
theorem sameRows_yes (v u : Value) (xs ys : List (Int × Int × Int)) (w : World) (h : Ros3 w v xs) (h' : Ros3 w u ys) (e : xs = ys) :
    Calls Try.prog 31 #[v, u] w fun e w' => e = .returned (.bool true) ∧ Below w.heap.size w w' := by
  subst e
  have HR := Lib.hid h
  have HR' := Lib.hid h'
  obtain ⟨A, c, b, off, rfl, hnc, hcm, -, -⟩ := h.shape
  obtain ⟨A', c', b', off', rfl, hnc', hcm', -, -⟩ := h'.shape
  obtain ⟨n, hxn⟩ : ∃ n, n = xs.length := ⟨_, rfl⟩
  rw [← hxn] at hnc hnc' HR HR' ⊢
  have HX := Lib.hid hxn
  clear hxn h h'
  unfold maxLen at hcm hcm'
  go_enter Try.func31, Try.ntmps31
  go_wp2_with fail
  go_loopg [13] n (fun kx s5 wr => ∃ k : Nat, k ≤ n ∧ s5 = .int .i64 k ∧ n - k ≤ kx ∧ Below w.heap.size w wr)
  case atStart => exact ⟨0, Nat.zero_le _, rfl, by omega, Below.refl _ _⟩
  case round =>
    obtain ⟨k, hk, rfl, hkk, hb⟩ := hrel
    by_cases hlt : k < n
    · obtain ⟨p, q, r, hx⟩ : ∃ p q r, xs[k]? = some (p, q, r) := ⟨_, _, _, List.getElem?_eq_getElem (by rw [← HX.out]; exact hlt)⟩
      obtain ⟨b1, off1, rfl, hc0, hc1, hc1b, hbl⟩ := (HR.out.below hb).at hx
      obtain ⟨b2, off2, rfl, hc2, hc3, hc3b, hbl2⟩ := (HR'.out.below hb).at hx
      clear hx
      have h1 : (0 : Int) ≤ (k : Int) := by omega
      have h2 : (k : Int) < (n : Int) := by omega
      go_wp2_with fail
      go_quiet (fail)
      go_wp2_with fail
      go_roundg (n - (k + 1))
      case measure => omega
      case rel => exact ⟨k + 1, by omega, by go_num, by omega, ⟨hb.os, hb.tape, hb.output, hb.size, hb.block⟩⟩
    · go_wp2_with fail
      go_ret
      exact ⟨rfl, hb⟩

theorem rsort_append (l : List (Int × Int × Int)) (a b : List Int) : rsort (rsort l a) b = rsort l (a ++ b) := by unfold rsort; rw [List.foldl_append]

end Go.Proofs.Ytiioojnoggcnmaa

/-
  What is proved here: the contract of the reference's Has; condition: at most 2^44 elements.
-/
import Derived.Test.YtpkdjdofbedncaaOut
namespace Go.Proofs.Ytpkdjdofbedncaa
open Go.RowKit
set_option linter.unusedVariables false

theorem not_mem_take {l : List Int} {j : Nat} {x v : Int} (h : ¬ v ∈ l.take j) (hx : l[j]? = some x) (hne : ¬ x = v) : ¬ v ∈ l.take (j + 1) := by
  rw [List.take_add_one, hx]
  simp only [Option.toList_some, List.mem_append, List.mem_singleton, not_or]
  exact ⟨h, fun e => hne e.symm⟩

set_option maxHeartbeats 1000000 in
theorem has_any (va : Value) (xs : List Int) (v : Int) (w : World) (h : Ro w va xs) (hn : xs.length ≤ 17592186044416) :
    Calls Try.prog 55 #[va, .int .i64 v] w fun e w' => e = .returned (.bool (decide (v ∈ xs))) ∧ w = w' := by
  obtain ⟨A, c, b, off, rfl, hnc, hcm, ha, hcell⟩ := h
  obtain ⟨n, hxn⟩ : ∃ n, n = xs.length := ⟨_, rfl⟩
  rw [← hxn] at hn hnc ha ⊢
  have HX := Lib.hid hxn
  have HC := Lib.hid hcell
  have HA := Lib.hid ha
  clear hcell ha hxn
  unfold maxLen at hcm
  go_enter Try.func55, Try.ntmps55
  go_wp2_with fail
  go_loopg [9] n (fun kx s9 wr => ∃ j : Nat, s9 = .int .i64 j ∧ j ≤ n ∧ n - j ≤ kx ∧ wr = w ∧ Hid (¬ v ∈ xs.take j))
  case atStart => exact ⟨0, rfl, Nat.zero_le _, by omega, rfl, by show ¬ v ∈ xs.take 0; simp⟩
  case round =>
    obtain ⟨j, rfl, hj, hjk, rfl, HM⟩ := hrel
    by_cases hlt : j < n
    · obtain ⟨x, hx⟩ : ∃ x, xs[j]? = some x := ⟨xs[j]'(by rw [← HX.out]; exact hlt), List.getElem?_eq_getElem _⟩
      obtain ⟨rfl, hbl⟩ := HA.out (by omega)
      have hc := HC.out j x hx
      have HXJ := Lib.hid hx
      clear hx
      by_cases hxv : x = v
      · subst hxv
        have HT := Lib.hid (show decide (x ∈ xs) = true by simpa using List.mem_of_getElem? HXJ.out)
        go_wp2_with fail
        go_ret
        exact ⟨by rw [HT.out]; rfl, rfl⟩
      · go_wp2_with fail
        go_roundg (n - (j + 1))
        case measure => omega
        case rel => exact ⟨j + 1, by go_num, by omega, by omega, rfl, not_mem_take HM.out HXJ.out hxv⟩
    · obtain rfl : j = n := by omega
      have hf : decide (v ∈ xs) = false := by
        have := HM.out
        rw [List.take_of_length_le (by rw [← HX.out]; exact Nat.le_refl _)] at this
        simpa using this
      have HF := Lib.hid hf
      clear hf
      go_wp2_with fail
      go_ret
      exact ⟨by rw [HF.out]; rfl, rfl⟩

end Go.Proofs.Ytpkdjdofbedncaa

/-
  What is proved here: the contract of the reference's Less: how many numbers of a list are less than one; condition: at most 2^44 elements.
-/
import Derived.Test.YtpkdjdofbedncaaOut
namespace Go.Proofs.Ytpkdjdofbedncaa
open Go.RowKit
set_option linter.unusedVariables false

theorem countP_take {l : List Int} {p : Int → Bool} {j : Nat} {x : Int} (h : l[j]? = some x) : (l.take (j + 1)).countP p = (l.take j).countP p + (if p x = true then 1 else 0) := by
  rw [List.take_add_one, h, List.countP_append]
  simp [List.countP_cons]

set_option maxHeartbeats 1000000 in
theorem less_any (va : Value) (xs : List Int) (v : Int) (w : World) (h : Ro w va xs) (hn : xs.length ≤ 17592186044416) :
    Calls Try.prog 50 #[va, .int .i64 v] w fun e w' => e = .returned (.int .i64 (xs.countP (fun y => decide (y < v)) : Nat)) ∧ w = w' := by
  obtain ⟨A, c, b, off, rfl, hnc, hcm, ha, hcell⟩ := h
  obtain ⟨n, hxn⟩ : ∃ n, n = xs.length := ⟨_, rfl⟩
  rw [← hxn] at hn hnc ha ⊢
  have HX := Lib.hid hxn
  have HC := Lib.hid hcell
  have HA := Lib.hid ha
  clear hcell ha hxn
  unfold maxLen at hcm
  obtain ⟨r, hr⟩ : ∃ r, r = xs.countP (fun y => decide (y < v)) := ⟨_, rfl⟩
  rw [← hr]
  have HR := Lib.hid hr
  clear hr
  go_enter Try.func50, Try.ntmps50
  go_wp2_with fail
  go_loopg [5, 10] n (fun kx s5 s10 wr => ∃ (j q : Nat), s5 = .int .i64 q ∧ s10 = .int .i64 j ∧ j ≤ n ∧ n - j ≤ kx ∧ q ≤ j ∧ wr = w ∧ Hid (q = (xs.take j).countP (fun y => decide (y < v))))
  case atStart => exact ⟨0, 0, rfl, rfl, Nat.zero_le _, by omega, Nat.le_refl _, rfl, by show 0 = (xs.take 0).countP _; simp⟩
  case round =>
    obtain ⟨j, q, rfl, rfl, hj, hjk, hq, rfl, HQ⟩ := hrel
    by_cases hlt : j < n
    · obtain ⟨x, hx⟩ : ∃ x, xs[j]? = some x := ⟨xs[j]'(by rw [← HX.out]; exact hlt), List.getElem?_eq_getElem _⟩
      obtain ⟨rfl, hbl⟩ := HA.out (by omega)
      have hc := HC.out j x hx
      have HST := Lib.hid (countP_take (p := fun y => decide (y < v)) hx)
      clear hx
      by_cases hxv : x < v
      · go_wp2_with fail
        go_roundg (n - (j + 1))
        case measure => omega
        case rel => exact ⟨j + 1, q + 1, by go_num, by go_num, by omega, by omega, by omega, rfl, (by show q + 1 = _; rw [HST.out, ← HQ.out, if_pos (by simpa using hxv)])⟩
      · go_wp2_with fail
        go_roundg (n - (j + 1))
        case measure => omega
        case rel => exact ⟨j + 1, q, by go_num, by go_num, by omega, by omega, by omega, rfl, (by show q = _; rw [HST.out, ← HQ.out, if_neg (by simpa using hxv)]; rfl)⟩
    · obtain rfl : j = n := by omega
      have hf : q = r := by
        rw [HR.out, HQ.out, List.take_of_length_le (by rw [← HX.out]; exact Nat.le_refl _)]
      subst hf
      go_wp2_with fail
      go_ret
      exact ⟨rfl, rfl⟩

end Go.Proofs.Ytpkdjdofbedncaa

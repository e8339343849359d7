/-
  What is proved here: the contract of the laws' helper total (the sum of loads and the greatest one); condition: at most 2^44 loads.
-/
import Derived.Test.YtjnjeofoapaoeaaCut
import Derived.Test.YtjnjeofoapaoeaaCutMore
import Derived.Test.YtjnjeofoapaoeaaWf
namespace Go.Proofs.Ytjnjeofoapaoeaa
open Go.RowKit
set_option linter.unusedVariables false

theorem most_lds (xs : List Int) (j : Nat) : most ((lds xs).take j) ≤ 999 := by
  rw [most_le]
  intro l hl
  have := List.mem_of_mem_take hl
  unfold lds at this
  rw [List.mem_map] at this
  obtain ⟨z, _, rfl⟩ := this
  omega

set_option maxHeartbeats 2000000 in
theorem total_any (va : Value) (xs : List Int) (w : World) (h : Ro w va xs) (hn : xs.length ≤ 17592186044416) :
    Calls Try.prog 14 #[va] w fun e w' => e = .returned (.tuple #[.int .i64 ((lds xs).sum : Nat), .int .i64 (most (lds xs) : Nat)]) ∧ w = w' := by
  obtain ⟨A, c, b, off, rfl, hnc, hcm, ha, hcell⟩ := h
  obtain ⟨n, hxn⟩ : ∃ n, n = xs.length := ⟨_, rfl⟩
  rw [← hxn] at hn hnc ha ⊢
  have HX := Lib.hid hxn
  have HC := Lib.hid hcell
  have HA := Lib.hid ha
  clear hcell ha hxn
  unfold maxLen at hcm
  obtain ⟨S, hS⟩ : ∃ S, S = (lds xs).sum := ⟨_, rfl⟩
  obtain ⟨M, hM⟩ : ∃ M, M = most (lds xs) := ⟨_, rfl⟩
  rw [← hS, ← hM]
  have HS := Lib.hid hS
  have HM := Lib.hid hM
  clear hS hM
  go_enter Try.func14, Try.ntmps14
  go_wp2_with fail
  go_loopg [4, 5, 10] n (fun kx s4 s5 s10 wr => ∃ (j s m : Nat), s4 = .int .i64 s ∧ s5 = .int .i64 m ∧ s10 = .int .i64 j ∧ j ≤ n ∧ n - j ≤ kx ∧ s ≤ 999 * j ∧ m ≤ 999 ∧ wr = w ∧ Hid (s = ((lds xs).take j).sum) ∧ Hid (m = most ((lds xs).take j)))
  case atStart => exact ⟨0, 0, 0, rfl, rfl, rfl, Nat.zero_le _, by omega, by omega, by omega, rfl, (by show 0 = ((lds xs).take 0).sum; simp), (by show 0 = most ((lds xs).take 0); simp [most])⟩
  case round =>
    obtain ⟨j, s, m, rfl, rfl, rfl, hj, hjk, hs, hm, rfl, H1, H2⟩ := hrel
    by_cases hlt : j < n
    · obtain ⟨z, hz⟩ := get_some HX.out hlt
      obtain ⟨rfl, hbl⟩ := HA.out (by omega)
      have hc := HC.out j z hz
      obtain ⟨l, hl⟩ : ∃ l : Nat, z % 1000 = (l : Int) := ⟨(z % 1000).toNat, by omega⟩
      have hl2 : l < 1000 := by omega
      have HT := Lib.hid (lds_at hz hl)
      have HL := Lib.hid hl
      clear hz hl
      have hN1 : Hid (s + l = ((lds xs).take (j + 1)).sum) := by
        show s + l = _
        rw [HT.out, List.sum_append, ← H1.out]
        simp
      have hN2 : Hid (max m l = most ((lds xs).take (j + 1))) := by
        show max m l = _
        rw [HT.out, most_snoc, ← H2.out]
      go_wp2_with fail
      refine (specAt_any z 1000 _ (by omega) (by omega)).mono ?_
      rw [HL.out]
      rintro e w' ⟨rfl, rfl⟩
      go_wp2_with fail
      refine (specAt_any z 1000 _ (by omega) (by omega)).mono ?_
      rw [HL.out]
      rintro e w' ⟨rfl, rfl⟩
      by_cases hml : m ≤ l
      · have q1 : (m : Int) ≤ (l : Int) := by omega
        have q2 : max (m : Int) (l : Int) = (l : Int) := by omega
        have q3 : ¬ l < m := by omega
        go_wp2_with fail
        all_goals first
          | (exfalso; omega)
          | (go_roundg (n - (j + 1))
             case measure => omega
             case rel => first | exact ⟨j + 1, s + l, l, by go_num, rfl, by go_num, by omega, by omega, by omega, by omega, rfl, hN1.out, (by have h := hN2.out; rw [show max m l = l by omega] at h; exact h)⟩ | exact ⟨j + 1, s + l, m, by go_num, rfl, by go_num, by omega, by omega, by omega, by omega, rfl, hN1.out, (by have h := hN2.out; rw [show max m l = m by omega] at h; exact h)⟩)
      · have q1 : ¬ (m : Int) ≤ (l : Int) := by omega
        have q2 : max (m : Int) (l : Int) = (m : Int) := by omega
        have q3 : l < m := by omega
        go_wp2_with fail
        all_goals first
          | (exfalso; omega)
          | (go_roundg (n - (j + 1))
             case measure => omega
             case rel => first | exact ⟨j + 1, s + l, m, by go_num, rfl, by go_num, by omega, by omega, by omega, by omega, rfl, hN1.out, (by have h := hN2.out; rw [show max m l = m by omega] at h; exact h)⟩ | exact ⟨j + 1, s + l, l, by go_num, rfl, by go_num, by omega, by omega, by omega, by omega, rfl, hN1.out, (by have h := hN2.out; rw [show max m l = l by omega] at h; exact h)⟩)
    · obtain rfl : j = n := by omega
      have e1 : s = S := by rw [HS.out, H1.out, List.take_of_length_le (by rw [lds_len, ← HX.out]; exact Nat.le_refl _)]
      have e2 : m = M := by rw [HM.out, H2.out, List.take_of_length_le (by rw [lds_len, ← HX.out]; exact Nat.le_refl _)]
      subst e1
      subst e2
      go_wp2_with fail
      go_ret2
      exact ⟨rfl, rfl⟩

end Go.Proofs.Ytjnjeofoapaoeaa

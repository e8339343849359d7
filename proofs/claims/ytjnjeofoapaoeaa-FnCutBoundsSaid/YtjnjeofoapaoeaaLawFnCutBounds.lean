/-
  What is proved here: the walk of the law FnCutBounds; no other condition.
-/
import Derived.Test.YtjnjeofoapaoeaaTotal
import Derived.Test.YtjnjeofoapaoeaaSame
namespace Go.Proofs.Ytjnjeofoapaoeaa
open Go.RowKit
set_option linter.unusedVariables false

set_option maxRecDepth 100000 in
set_option maxHeartbeats 2000000 in
theorem walk_FnCutBounds (v0 : Value) (x0 : List Int) (a1 : Int) (w : World) (h0 : Ro w v0 x0) (f0 : ∀ x ∈ x0, (Lit.int .i64 x).wf = true) (n0 : x0.length * 8 ≤ 140737488351232) (f1 : (Lit.int .i64 a1).wf = true) :
    Calls Try.prog 3 #[v0, .int .i64 a1] w fun e w' => e = .returned (.bool true) ∧ Below w.heap.size w w' := by
  have R_v0 := Lib.hid h0
  clear h0 f0
  clear f1
  obtain ⟨A0, c0, b0, off0, rfl, hnc0, hcm0, -, -⟩ := R_v0.out.shape
  obtain ⟨l0, hl0⟩ : ∃ n, n = x0.length := ⟨_, rfl⟩
  rw [← hl0] at R_v0 n0 hnc0 ⊢
  have HL0 := Lib.hid hl0
  clear hl0
  unfold maxLen at hcm0
  obtain ⟨S, hS⟩ : ∃ S, S = (lds x0).sum := ⟨_, rfl⟩
  obtain ⟨M, hM⟩ : ∃ M, M = most (lds x0) := ⟨_, rfl⟩
  have hls : S ≤ 999 * 17592186044416 := by rw [hS]; have h := lds_sum x0 x0.length; rw [List.take_of_length_le (by rw [lds_len]; exact Nat.le_refl _), ← HL0.out] at h; omega
  have hml : M ≤ 999 := by rw [hM]; have h := most_lds x0 x0.length; rwa [List.take_of_length_le (by rw [lds_len]; exact Nat.le_refl _)] at h
  have HS := Lib.hid hS
  have HM := Lib.hid hM
  obtain ⟨q, hq⟩ : ∃ q : Nat, a1 % 10 = (q : Int) := ⟨(a1 % 10).toNat, by omega⟩
  have hq10 : q < 10 := by omega
  have HQ := Lib.hid hq
  clear hq hS hM
  go_enter Try.func3, Try.ntmps3
  go_wp2_with fail
  refine (total_any _ x0 _ R_v0.out (by rw [← HL0.out]; omega)).mono ?_
  rw [← HS.out, ← HM.out]
  rintro e w' ⟨rfl, rfl⟩
  go_wp2_with fail
  refine (specAt_any a1 10 _ (by omega) (by omega)).mono ?_
  rw [HQ.out]
  rintro e w' ⟨rfl, rfl⟩
  go_wp2_with fail
  refine (cut_any _ (x0) (a1) (q) _ R_v0.out (by rw [← HL0.out]; omega) (HQ.out)).mono ?_
  rintro e W1 ⟨c, rfl, i_c, s_c, b1⟩
  replace R_v0 := Lib.hid (R_v0.out.below b1)
  have bt1 : Below w.heap.size w W1 := b1
  clear b1
  have I_c := Lib.hid i_c
  clear i_c
  rw [← HS.out] at s_c
  obtain ⟨k1, k2, k3, k4, k5⟩ := cut_bounds I_c.out
  rw [← HM.out] at k1 k4
  rw [← HS.out] at k2 k5
  rw [lds_len, ← HL0.out] at k4
  have j1 : (M : Int) ≤ (c : Int) := by omega
  have j2 : (S : Int) ≤ (c : Int) * (1 + (q : Int)) := by
    have h : ((c * (q + 1) : Nat) : Int) = (c : Int) * (1 + (q : Int)) := by rw [Int.natCast_mul, Int.natCast_add]; congr 1; omega
    omega
  have j3 : (c : Int) * (1 + (q : Int)) ≤ 1000000000000000000 := by
    have h1 : (c : Int) ≤ 17574594000000000 := by omega
    have h2 : (1 + (q : Int)) ≤ 10 := by omega
    have h3 := Int.mul_le_mul h1 h2 (by omega) (by omega)
    omega
  have j4 : 0 ≤ (c : Int) * (1 + (q : Int)) := Int.mul_nonneg (by omega) (by omega)
  have j5 : (c : Int) ≤ (S : Int) := by omega
  have HK4 := Lib.hid k4
  have HK5 := Lib.hid k5
  clear k2 k4 k5 HS HM I_c R_v0
  by_cases hl : l0 ≤ q + 1
  · obtain rfl : c = M := HK4.out hl
    have hl2 : (l0 : Int) ≤ 1 + (q : Int) := by omega
    by_cases h0 : q = 0
    · obtain rfl : c = S := HK5.out h0
      subst h0
      go_wp2_with fail
      refine (works_any _).mono ?_
      rintro e W9 ⟨rfl, b9⟩
      go_wp2_with fail
      go_ret
      exact ⟨rfl, bt1.trans (b9.mono bt1.size)⟩
    · have h1 : ((1 : Int) + (q : Int) == 1) = false := by simp; omega
      go_wp2_with fail
      refine (works_any _).mono ?_
      rintro e W9 ⟨rfl, b9⟩
      go_wp2_with fail
      go_ret
      exact ⟨rfl, bt1.trans (b9.mono bt1.size)⟩
  · have hl2 : ¬ (l0 : Int) ≤ 1 + (q : Int) := by omega
    by_cases h0 : q = 0
    · obtain rfl : c = S := HK5.out h0
      subst h0
      go_wp2_with fail
      refine (works_any _).mono ?_
      rintro e W9 ⟨rfl, b9⟩
      go_wp2_with fail
      go_ret
      exact ⟨rfl, bt1.trans (b9.mono bt1.size)⟩
    · have h1 : ((1 : Int) + (q : Int) == 1) = false := by simp; omega
      go_wp2_with fail
      refine (works_any _).mono ?_
      rintro e W9 ⟨rfl, b9⟩
      go_wp2_with fail
      go_ret
      exact ⟨rfl, bt1.trans (b9.mono bt1.size)⟩

end Go.Proofs.Ytjnjeofoapaoeaa

/-
  What is proved here: the walk of the law FnSwapsParity, for lists of at most 2^20 elements; no other condition.
-/
import Derived.Test.YtiioojnoggcnmaaSwaps
import Derived.Test.YtiioojnoggcnmaaEquals
import Derived.Test.YtiioojnoggcnmaaInv
import Derived.Test.YtiioojnoggcnmaaSame
namespace Go.Proofs.Ytiioojnoggcnmaa
open Go.RowKit
set_option linter.unusedVariables false

theorem tmod_two {x : Int} (h : x % 2 = 0) : x.tmod 2 = 0 := Int.tmod_eq_zero_of_dvd (Int.dvd_of_emod_eq_zero h)
theorem wrap_small {k : Nat} (h : k ≤ 4611686018427387904) : wrap64 (k : Int) = (k : Int) := by unfold wrap64; omega
theorem most_sort {k l : Nat} (hl : l ≤ 1048576) (h : k ≤ 20 * (l + 1) * l) : k ≤ 30000000000000 := by
  have := Nat.mul_le_mul (Nat.mul_le_mul_left 20 (show l + 1 ≤ 1048577 by omega)) hl
  omega
theorem most_stable {k l : Nat} (hl : l ≤ 1048576) (h : k ≤ 2 * (20 + 2 * l) * l) : k ≤ 30000000000000 := by
  have := Nat.mul_le_mul (Nat.mul_le_mul_left 2 (show 20 + 2 * l ≤ 2097172 by omega)) hl
  omega

set_option maxRecDepth 100000 in
set_option maxHeartbeats 2000000 in
theorem walk_FnSwapsParity (v0 : Value) (x0 : List Int) (w : World) (h0 : Ro w v0 x0) (f0 : ∀ x ∈ x0, (Lit.int .i64 x).wf = true) (n0 : x0.length ≤ 1048576) :
    Calls Try.prog 5 #[v0] w fun e w' => e = .returned (.bool true) ∧ Below w.heap.size w w' := by
  have R_v0 := Lib.hid h0
  clear h0 f0
  obtain ⟨A0, c0, b0, off0, rfl, hnc0, hcm0, -, -⟩ := R_v0.out.shape
  obtain ⟨l0, hl0⟩ : ∃ n, n = x0.length := ⟨_, rfl⟩
  rw [← hl0] at R_v0 n0 hnc0 ⊢
  have HL0 := Lib.hid hl0
  clear hl0
  unfold maxLen at hcm0
  obtain ⟨i0, hi0⟩ : ∃ i, i = inv x0 := ⟨_, rfl⟩
  obtain ⟨i2, hi2⟩ : ∃ i, i = eqs x0 := ⟨_, rfl⟩
  have hsum := inv_mirror x0
  rw [← hi0, ← hi2, ← HL0.out] at hsum
  have hmb : l0 * (l0 - 1) ≤ 1048576 * 1048576 := Nat.mul_le_mul n0 (by omega)
  have q0 : (l0 : Int) * ((l0 : Int) - 1) = ((l0 * (l0 - 1) : Nat) : Int) := by
    rcases Nat.eq_zero_or_pos l0 with h | h
    · subst h; rfl
    · rw [Int.natCast_mul]; congr 1; omega
  have Q0 := Lib.hid q0
  have q1 : 0 ≤ (l0 : Int) * ((l0 : Int) - 1) := by omega
  have q2 : (l0 : Int) * ((l0 : Int) - 1) ≤ 1099511627776 := by omega
  have k0 : i0 ≤ 1099511627776 := by omega
  have k2 : i2 ≤ 1099511627776 := by omega
  have HI0 := Lib.hid hi0
  have HI2 := Lib.hid hi2
  clear hi0 hi2 hsum hmb q0
  go_enter Try.func5, Try.ntmps5
  go_wp2_with fail
  refine (equals_any _ x0 _ R_v0.out (by rw [← HL0.out]; omega)).mono ?_
  rw [← HI2.out]
  rintro e W1 ⟨rfl, b1⟩
  replace R_v0 := Lib.hid (R_v0.out.below b1)
  have bt1 : Below w.heap.size w W1 := b1
  clear b1
  by_cases hz : 0 < i2
  · have hz1 : (0 : Int) < (i2 : Int) := by omega
    go_wp2_with fail
    refine (works_any _).mono ?_
    rintro e W2 ⟨rfl, b2⟩
    replace R_v0 := Lib.hid (R_v0.out.below b2)
    have bt2 : Below w.heap.size w W2 := bt1.trans (b2.mono bt1.size)
    clear bt1
    clear b2
    go_wp2_with fail
    go_ret
    exact ⟨rfl, bt2⟩
  · have hz1 : ¬ (0 : Int) < (i2 : Int) := by omega
    have HE : Hid (eqs x0 = 0) := by show _ = _; rw [← HI2.out]; omega
    go_wp2_with fail
    refine (swaps_any _ x0 _ R_v0.out (by rw [← HL0.out]; omega)).mono ?_
    rw [← HL0.out]
    rintro e W2 ⟨g2, cp2, k2, rfl, o2, b2, hk2, hd2⟩
    have kb2 := most_sort n0 hk2
    rw [wrap_small (Nat.le_trans kb2 (by omega))]
    replace R_v0 := Lib.hid (R_v0.out.below b2)
    have bt2 : Below w.heap.size w W2 := bt1.trans (b2.mono bt1.size)
    clear bt1
    clear b2
    have HD2 := Lib.hid hd2
    clear o2 hk2 hd2
    go_wp2_with fail
    refine (stableSwaps_any _ x0 _ R_v0.out (by rw [← HL0.out]; omega)).mono ?_
    rw [← HL0.out]
    rintro e W3 ⟨g3, cp3, k3, rfl, o3, b3, hk3, hd3⟩
    have kb3 := most_stable n0 hk3
    rw [wrap_small (Nat.le_trans kb3 (by omega))]
    replace R_v0 := Lib.hid (R_v0.out.below b3)
    have bt3 : Below w.heap.size w W3 := bt2.trans (b3.mono bt2.size)
    clear bt2
    clear b3
    have HD3 := Lib.hid hd3
    clear o3 hk3 hd3
    go_wp2_with fail
    refine (fallingSwaps_any _ x0 _ R_v0.out (by rw [← HL0.out]; omega)).mono ?_
    rw [← HL0.out]
    rintro e W4 ⟨g4, cp4, k4, rfl, o4, b4, hk4, hd4⟩
    have kb4 := most_sort n0 hk4
    rw [wrap_small (Nat.le_trans kb4 (by omega))]
    replace R_v0 := Lib.hid (R_v0.out.below b4)
    have bt4 : Below w.heap.size w W4 := bt3.trans (b4.mono bt3.size)
    clear bt3
    clear b4
    have HD4 := Lib.hid hd4
    clear o4 hk4 hd4
    go_wp2_with fail
    refine (inversions_any _ x0 _ R_v0.out (by rw [← HL0.out]; omega)).mono ?_
    rw [← HI0.out]
    rintro e W5 ⟨rfl, b5⟩
    replace R_v0 := Lib.hid (R_v0.out.below b5)
    have bt5 : Below w.heap.size w W5 := bt4.trans (b5.mono bt4.size)
    clear bt4
    clear b5
    have t1 : ((k2 : Int) - (i0 : Int)).tmod 2 = 0 := by
      obtain ⟨d, h1, h2⟩ := HD2.out
      have h := parity_up HE.out (by rw [← HL0.out]; exact h1) h2
      rw [← HI0.out] at h
      exact tmod_two (by omega)
    have t2 : ((k3 : Int) - (i0 : Int)).tmod 2 = 0 := by
      obtain ⟨d, h1, h2⟩ := HD3.out
      have h := parity_up HE.out (by rw [← HL0.out]; exact h1) h2
      rw [← HI0.out] at h
      exact tmod_two (by omega)
    have t3 : ((k4 : Int) - (l0 : Int) * ((l0 : Int) - 1) / 2 + (i0 : Int)).tmod 2 = 0 := by
      obtain ⟨d, h1, h2⟩ := HD4.out
      have h := parity_down HE.out (by rw [← HL0.out]; exact h1) h2
      rw [← HI0.out, ← HL0.out] at h
      have hq := Q0.out
      exact tmod_two (by omega)
    go_wp2_with fail
    refine (works_any _).mono ?_
    rintro e W6 ⟨rfl, b6⟩
    replace R_v0 := Lib.hid (R_v0.out.below b6)
    have bt6 : Below w.heap.size w W6 := bt5.trans (b6.mono bt5.size)
    clear bt5
    clear b6
    go_wp2_with fail
    go_ret
    exact ⟨rfl, bt6⟩

end Go.Proofs.Ytiioojnoggcnmaa

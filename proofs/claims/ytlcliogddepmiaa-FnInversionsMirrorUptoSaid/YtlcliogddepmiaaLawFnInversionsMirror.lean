/-
  What is proved here: the walk of the law FnInversionsMirror, for lists of at most 2^20 elements; no other condition.
-/
import Derived.Test.YtlcliogddepmiaaInv
import Derived.Test.YtlcliogddepmiaaMir
import Derived.Test.YtlcliogddepmiaaEquals
import Derived.Test.YtlcliogddepmiaaSame
namespace Go.Proofs.Ytlcliogddepmiaa
open Go.RowKit
set_option linter.unusedVariables false

set_option maxRecDepth 100000 in
set_option maxHeartbeats 2000000 in
theorem walk_FnInversionsMirror (v0 : Value) (x0 : List Int) (w : World) (h0 : Ro w v0 x0) (f0 : ∀ x ∈ x0, (Lit.int .i64 x).wf = true) (n0 : x0.length ≤ 1048576) :
    Calls Try.prog 3 #[v0] w fun e w' => e = .returned (.bool true) ∧ Below w.heap.size w w' := by
  have R_v0 := Lib.hid h0
  clear h0 f0
  obtain ⟨A0, c0, b0, off0, rfl, hnc0, hcm0, -, -⟩ := R_v0.out.shape
  obtain ⟨l0, hl0⟩ : ∃ n, n = x0.length := ⟨_, rfl⟩
  rw [← hl0] at R_v0 n0 hnc0 ⊢
  have HL0 := Lib.hid hl0
  clear hl0
  unfold maxLen at hcm0
  obtain ⟨i0, hi0⟩ : ∃ i, i = inv x0 := ⟨_, rfl⟩
  obtain ⟨i1, hi1⟩ : ∃ i, i = inv x0.reverse := ⟨_, rfl⟩
  obtain ⟨i2, hi2⟩ : ∃ i, i = eqs x0 := ⟨_, rfl⟩
  have hsum := inv_mirror x0
  rw [← hi0, ← hi1, ← hi2, ← HL0.out] at hsum
  have hmb : l0 * (l0 - 1) ≤ 1048576 * 1048576 := Nat.mul_le_mul n0 (by omega)
  have q0 : (l0 : Int) * ((l0 : Int) - 1) = ((l0 * (l0 - 1) : Nat) : Int) := by
    rcases Nat.eq_zero_or_pos l0 with h | h
    · subst h; rfl
    · rw [Int.natCast_mul]; congr 1; omega
  have q1 : 0 ≤ (l0 : Int) * ((l0 : Int) - 1) := by omega
  have q2 : (l0 : Int) * ((l0 : Int) - 1) ≤ 1099511627776 := by omega
  have q3 : ((i0 : Int) + (i1 : Int) + (i2 : Int)) * 2 = (l0 : Int) * ((l0 : Int) - 1) := by omega
  have q4 : ((i0 : Int) + (i1 : Int) + (i2 : Int) == (l0 : Int) * ((l0 : Int) - 1) / 2) = true := by rw [beq_iff_eq]; omega
  have k0 : i0 ≤ 1099511627776 := by omega
  have k1 : i1 ≤ 1099511627776 := by omega
  have k2 : i2 ≤ 1099511627776 := by omega
  have HI0 := Lib.hid hi0
  have HI1 := Lib.hid hi1
  have HI2 := Lib.hid hi2
  clear hi0 hi1 hi2 hsum hmb q0 q3
  go_enter Try.func3, Try.ntmps3
  go_wp2_with fail
  refine (inversions_any _ x0 _ R_v0.out (by rw [← HL0.out]; omega)).mono ?_
  rw [← HI0.out]
  rintro e W1 ⟨rfl, b1⟩
  replace R_v0 := Lib.hid (R_v0.out.below b1)
  have bt1 : Below w.heap.size w W1 := b1
  clear b1
  go_wp2_with fail
  refine (mirrored_any _ x0 _ R_v0.out (by rw [← HL0.out]; omega)).mono ?_
  rintro e W2 ⟨u1, rfl, o2, b2⟩
  replace R_v0 := Lib.hid (R_v0.out.below b2)
  have bt2 : Below w.heap.size w W2 := bt1.trans (b2.mono bt1.size)
  clear bt1
  clear b2
  have R_u1 := Lib.hid o2.ro
  clear o2
  go_wp2_with fail
  refine (inversions_any _ x0.reverse _ R_u1.out (by rw [List.length_reverse, ← HL0.out]; omega)).mono ?_
  rw [← HI1.out]
  rintro e W3 ⟨rfl, b3⟩
  replace R_v0 := Lib.hid (R_v0.out.below b3)
  replace R_u1 := Lib.hid (R_u1.out.below b3)
  have bt3 : Below w.heap.size w W3 := bt2.trans (b3.mono bt2.size)
  clear bt2
  clear b3
  go_wp2_with fail
  refine (equals_any _ x0 _ R_v0.out (by rw [← HL0.out]; omega)).mono ?_
  rw [← HI2.out]
  rintro e W4 ⟨rfl, b4⟩
  replace R_v0 := Lib.hid (R_v0.out.below b4)
  replace R_u1 := Lib.hid (R_u1.out.below b4)
  have bt4 : Below w.heap.size w W4 := bt3.trans (b4.mono bt3.size)
  clear bt3
  clear b4
  go_wp2_with fail
  refine (works_any _).mono ?_
  rintro e W5 ⟨rfl, b5⟩
  replace R_v0 := Lib.hid (R_v0.out.below b5)
  replace R_u1 := Lib.hid (R_u1.out.below b5)
  have bt5 : Below w.heap.size w W5 := bt4.trans (b5.mono bt4.size)
  clear bt4
  clear b5
  go_wp2_with fail
  go_ret
  exact ⟨rfl, bt5⟩

end Go.Proofs.Ytlcliogddepmiaa

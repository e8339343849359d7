/-
  What is proved here: the walk of the law FnInversionsNone, for lists of at most 2^20 elements; no other condition.
-/
import Derived.Test.YtlcliogddepmiaaWPiles
import Derived.Test.YtlcliogddepmiaaInv
import Derived.Test.YtlcliogddepmiaaInvMore
import Derived.Test.YtlcliogddepmiaaPilesMore
import Derived.Test.YtlcliogddepmiaaSame
namespace Go.Proofs.Ytlcliogddepmiaa
open Go.RowKit
set_option linter.unusedVariables false

set_option maxRecDepth 100000 in
set_option maxHeartbeats 2000000 in
theorem walk_FnInversionsNone (v0 : Value) (x0 : List Int) (w : World) (h0 : Ro w v0 x0) (f0 : ∀ x ∈ x0, (Lit.int .i64 x).wf = true) (n0 : x0.length ≤ 1048576) :
    Calls Try.prog 5 #[v0] w fun e w' => e = .returned (.bool true) ∧ Below w.heap.size w w' := by
  have R_v0 := Lib.hid h0
  clear h0 f0
  obtain ⟨A0, c0, b0, off0, rfl, hnc0, hcm0, -, -⟩ := R_v0.out.shape
  obtain ⟨l0, hl0⟩ : ∃ n, n = x0.length := ⟨_, rfl⟩
  rw [← hl0] at R_v0 n0 hnc0 ⊢
  have HL0 := Lib.hid hl0
  clear hl0
  unfold maxLen at hcm0
  obtain ⟨i, hi⟩ : ∃ i, i = inv x0 := ⟨_, rfl⟩
  have HI := Lib.hid hi
  have hib : i ≤ 1099511627776 := by rw [hi]; exact inv_bound x0 1048576 (by rw [← HL0.out]; exact n0)
  clear hi
  have HZ := Lib.hid (show i = 0 ↔ Asc x0 by rw [HI.out]; exact inv_zero)
  by_cases h0 : i = 0
  · have HZ0 := Lib.hid (HZ.out.1 h0)
    subst h0
    go_enter Try.func5, Try.ntmps5
    go_wp2_with fail
    refine (inversions_any _ x0 _ R_v0.out (by rw [← HL0.out]; omega)).mono ?_
    rw [← HI.out]
    rintro e W1 ⟨rfl, bt1⟩
    replace R_v0 := Lib.hid (R_v0.out.below bt1)
    go_wp2_with fail
    refine (ascending_any _ x0 _ R_v0.out (by rw [← HL0.out]; omega)).mono ?_
    rintro e W2 ⟨u1, rfl, o2, b2⟩
    replace R_v0 := Lib.hid (R_v0.out.below b2)
    have bt2 : Below w.heap.size w W2 := bt1.trans (b2.mono bt1.size)
    clear bt1
    clear b2
    have R_u1 := Lib.hid o2.ro
    clear o2
    go_wp2_with fail
    refine (same_yes _ _ _ _ _ R_u1.out R_v0.out (asc_iff.2 (HZ0.out))).mono ?_
    rintro e W3 ⟨rfl, b3⟩
    replace R_v0 := Lib.hid (R_v0.out.below b3)
    replace R_u1 := Lib.hid (R_u1.out.below b3)
    have bt3 : Below w.heap.size w W3 := bt2.trans (b3.mono bt2.size)
    clear bt2
    clear b3
    go_wp2_with fail
    refine (weakPiles_any _ x0 _ R_v0.out (by rw [← HL0.out]; omega)).mono ?_
    rintro e W4 ⟨u2, rfl, o4, b4⟩
    replace R_v0 := Lib.hid (R_v0.out.below b4)
    replace R_u1 := Lib.hid (R_u1.out.below b4)
    have bt4 : Below w.heap.size w W4 := bt3.trans (b4.mono bt3.size)
    clear bt3
    clear b4
    have R_u2 := Lib.hid o4.ro
    clear o4
    obtain ⟨A_u2, c_u2, b_u2, off_u2, rfl, hnc_u2, hcm_u2, -, -⟩ := R_u2.out.shape
    obtain ⟨m2, h_m2⟩ : ∃ n, n = (piles true x0).length := ⟨_, rfl⟩
    rw [← h_m2] at R_u2 hnc_u2 ⊢
    have b_m2 : m2 ≤ 1048576 := by rw [h_m2]; have := piles_len true x0; rw [← HL0.out] at this; omega
    have H_m2 := Lib.hid h_m2
    clear h_m2
    unfold maxLen at hcm_u2
    obtain rfl : m2 = l0 := by rw [H_m2.out, HL0.out]; exact piles_all.2 HZ0.out
    go_wp2_with fail
    refine (works_any _).mono ?_
    rintro e W5 ⟨rfl, b5⟩
    replace R_v0 := Lib.hid (R_v0.out.below b5)
    replace R_u1 := Lib.hid (R_u1.out.below b5)
    replace R_u2 := Lib.hid (R_u2.out.below b5)
    have bt5 : Below w.heap.size w W5 := bt4.trans (b5.mono bt4.size)
    clear bt4
    clear b5
    go_wp2_with fail
    go_ret
    exact ⟨rfl, bt5⟩
  · have hB : ((i : Int) == 0) = false := by simp; omega
    go_enter Try.func5, Try.ntmps5
    go_wp2_with fail
    refine (inversions_any _ x0 _ R_v0.out (by rw [← HL0.out]; omega)).mono ?_
    rw [← HI.out]
    rintro e W1 ⟨rfl, bt1⟩
    replace R_v0 := Lib.hid (R_v0.out.below bt1)
    go_wp2_with fail
    refine (ascending_any _ x0 _ R_v0.out (by rw [← HL0.out]; omega)).mono ?_
    rintro e W2 ⟨u1, rfl, o2, b2⟩
    replace R_v0 := Lib.hid (R_v0.out.below b2)
    have bt2 : Below w.heap.size w W2 := bt1.trans (b2.mono bt1.size)
    clear bt1
    clear b2
    have R_u1 := Lib.hid o2.ro
    clear o2
    go_wp2_with fail
    refine (same_any _ _ _ _ _ R_u1.out R_v0.out).mono ?_
    rw [decide_eq_false (fun e => h0 (HZ.out.2 (asc_iff.1 e)))]
    rintro e W3 ⟨rfl, b3⟩
    replace R_v0 := Lib.hid (R_v0.out.below b3)
    replace R_u1 := Lib.hid (R_u1.out.below b3)
    have bt3 : Below w.heap.size w W3 := bt2.trans (b3.mono bt2.size)
    clear bt2
    clear b3
    go_wp2_with fail
    refine (weakPiles_any _ x0 _ R_v0.out (by rw [← HL0.out]; omega)).mono ?_
    rintro e W4 ⟨u2, rfl, o4, b4⟩
    replace R_v0 := Lib.hid (R_v0.out.below b4)
    replace R_u1 := Lib.hid (R_u1.out.below b4)
    have bt4 : Below w.heap.size w W4 := bt3.trans (b4.mono bt3.size)
    clear bt3
    clear b4
    have R_u2 := Lib.hid o4.ro
    clear o4
    obtain ⟨A_u2, c_u2, b_u2, off_u2, rfl, hnc_u2, hcm_u2, -, -⟩ := R_u2.out.shape
    obtain ⟨m2, h_m2⟩ : ∃ n, n = (piles true x0).length := ⟨_, rfl⟩
    rw [← h_m2] at R_u2 hnc_u2 ⊢
    have b_m2 : m2 ≤ 1048576 := by rw [h_m2]; have := piles_len true x0; rw [← HL0.out] at this; omega
    have H_m2 := Lib.hid h_m2
    clear h_m2
    unfold maxLen at hcm_u2
    have hml : ¬ m2 = l0 := fun e => h0 (HZ.out.2 (piles_all.1 (by rw [← H_m2.out, ← HL0.out]; exact e)))
    have hmB : ((m2 : Int) == (l0 : Int)) = false := by simp; omega
    go_wp2_with fail
    refine (works_any _).mono ?_
    rintro e W5 ⟨rfl, b5⟩
    replace R_v0 := Lib.hid (R_v0.out.below b5)
    replace R_u1 := Lib.hid (R_u1.out.below b5)
    replace R_u2 := Lib.hid (R_u2.out.below b5)
    have bt5 : Below w.heap.size w W5 := bt4.trans (b5.mono bt4.size)
    clear bt4
    clear b5
    go_wp2_with fail
    go_ret
    exact ⟨rfl, bt5⟩

end Go.Proofs.Ytlcliogddepmiaa

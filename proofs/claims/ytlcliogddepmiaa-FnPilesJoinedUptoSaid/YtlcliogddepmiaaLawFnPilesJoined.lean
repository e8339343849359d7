/-
  What is proved here: the walk of the law FnPilesJoined, for lists of at most 2^20 elements; no other condition.
-/
import Derived.Test.YtlcliogddepmiaaPiles
import Derived.Test.YtlcliogddepmiaaJoin
import Derived.Test.YtlcliogddepmiaaPilesMore
import Derived.Test.YtlcliogddepmiaaSame
namespace Go.Proofs.Ytlcliogddepmiaa
open Go.RowKit
set_option linter.unusedVariables false

set_option maxRecDepth 100000 in
set_option maxHeartbeats 2000000 in
theorem walk_FnPilesJoined (v0 : Value) (x0 : List Int) (v1 : Value) (x1 : List Int) (w : World) (h0 : Ro w v0 x0) (f0 : ∀ x ∈ x0, (Lit.int .i64 x).wf = true) (n0 : x0.length ≤ 1048576) (h1 : Ro w v1 x1) (f1 : ∀ x ∈ x1, (Lit.int .i64 x).wf = true) (n1 : x1.length ≤ 1048576) :
    Calls Try.prog 6 #[v0, v1] w fun e w' => e = .returned (.bool true) ∧ Below w.heap.size w w' := by
  have R_v0 := Lib.hid h0
  clear h0 f0
  have R_v1 := Lib.hid h1
  clear h1 f1
  go_enter Try.func6, Try.ntmps6
  go_wp2_with fail
  refine (piles_any _ x0 _ R_v0.out (by omega)).mono ?_
  rintro e W1 ⟨u1, rfl, o1, b1⟩
  replace R_v0 := Lib.hid (R_v0.out.below b1)
  replace R_v1 := Lib.hid (R_v1.out.below b1)
  have bt1 : Below w.heap.size w W1 := b1
  clear b1
  have R_u1 := Lib.hid o1.ro
  clear o1
  obtain ⟨A_u1, c_u1, b_u1, off_u1, rfl, hnc_u1, hcm_u1, -, -⟩ := R_u1.out.shape
  obtain ⟨m1, h_m1⟩ : ∃ n, n = (piles false x0).length := ⟨_, rfl⟩
  rw [← h_m1] at R_u1 hnc_u1 ⊢
  have b_m1 : m1 ≤ 1048576 := by rw [h_m1]; have := piles_len false x0; omega
  have H_m1 := Lib.hid h_m1
  clear h_m1
  unfold maxLen at hcm_u1
  go_wp2_with fail
  refine (piles_any _ x1 _ R_v1.out (by omega)).mono ?_
  rintro e W2 ⟨u2, rfl, o2, b2⟩
  replace R_v0 := Lib.hid (R_v0.out.below b2)
  replace R_v1 := Lib.hid (R_v1.out.below b2)
  replace R_u1 := Lib.hid (R_u1.out.below b2)
  have bt2 : Below w.heap.size w W2 := bt1.trans (b2.mono bt1.size)
  clear bt1
  clear b2
  have R_u2 := Lib.hid o2.ro
  clear o2
  obtain ⟨A_u2, c_u2, b_u2, off_u2, rfl, hnc_u2, hcm_u2, -, -⟩ := R_u2.out.shape
  obtain ⟨m2, h_m2⟩ : ∃ n, n = (piles false x1).length := ⟨_, rfl⟩
  rw [← h_m2] at R_u2 hnc_u2 ⊢
  have b_m2 : m2 ≤ 1048576 := by rw [h_m2]; have := piles_len false x1; omega
  have H_m2 := Lib.hid h_m2
  clear h_m2
  unfold maxLen at hcm_u2
  go_wp2_with fail
  refine (joined_any _ _ x0 x1 _ R_v0.out R_v1.out (by omega)).mono ?_
  rintro e W3 ⟨u3, rfl, o3, b3⟩
  replace R_v0 := Lib.hid (R_v0.out.below b3)
  replace R_v1 := Lib.hid (R_v1.out.below b3)
  replace R_u1 := Lib.hid (R_u1.out.below b3)
  replace R_u2 := Lib.hid (R_u2.out.below b3)
  have bt3 : Below w.heap.size w W3 := bt2.trans (b3.mono bt2.size)
  clear bt2
  clear b3
  have R_u3 := Lib.hid o3.ro
  clear o3
  go_wp2_with fail
  refine (piles_any _ (x0 ++ x1) _ R_u3.out (by rw [List.length_append]; omega)).mono ?_
  rintro e W4 ⟨u4, rfl, o4, b4⟩
  replace R_v0 := Lib.hid (R_v0.out.below b4)
  replace R_v1 := Lib.hid (R_v1.out.below b4)
  replace R_u1 := Lib.hid (R_u1.out.below b4)
  replace R_u2 := Lib.hid (R_u2.out.below b4)
  replace R_u3 := Lib.hid (R_u3.out.below b4)
  have bt4 : Below w.heap.size w W4 := bt3.trans (b4.mono bt3.size)
  clear bt3
  clear b4
  have R_u4 := Lib.hid o4.ro
  clear o4
  obtain ⟨A_u4, c_u4, b_u4, off_u4, rfl, hnc_u4, hcm_u4, -, -⟩ := R_u4.out.shape
  obtain ⟨m4, h_m4⟩ : ∃ n, n = (piles false (x0 ++ x1)).length := ⟨_, rfl⟩
  rw [← h_m4] at R_u4 hnc_u4 ⊢
  have b_m4 : m4 ≤ 2097152 := by rw [h_m4]; have := piles_len false (x0 ++ x1); rw [List.length_append] at this; omega
  have H_m4 := Lib.hid h_m4
  clear h_m4
  unfold maxLen at hcm_u4
  obtain ⟨j1, j2, j3⟩ := piles_joined false x0 x1
  rw [← H_m1.out, ← H_m4.out] at j1
  rw [← H_m2.out, ← H_m4.out] at j2
  rw [← H_m1.out, ← H_m2.out, ← H_m4.out] at j3
  have k1 : (m1 : Int) ≤ (m4 : Int) := by omega
  have k2 : (m2 : Int) ≤ (m4 : Int) := by omega
  have k3 : (m4 : Int) ≤ (m1 : Int) + (m2 : Int) := by omega
  have k4 : max m1 m2 ≤ m4 := by omega
  have k5 : max (m1 : Int) (m2 : Int) ≤ (m4 : Int) := by omega
  go_wp2_with fail
  refine (works_any _).mono ?_
  rintro e W5 ⟨rfl, b5⟩
  replace R_v0 := Lib.hid (R_v0.out.below b5)
  replace R_v1 := Lib.hid (R_v1.out.below b5)
  replace R_u1 := Lib.hid (R_u1.out.below b5)
  replace R_u2 := Lib.hid (R_u2.out.below b5)
  replace R_u3 := Lib.hid (R_u3.out.below b5)
  replace R_u4 := Lib.hid (R_u4.out.below b5)
  have bt5 : Below w.heap.size w W5 := bt4.trans (b5.mono bt4.size)
  clear bt4
  clear b5
  go_wp2_with fail
  go_ret
  exact ⟨rfl, bt5⟩

end Go.Proofs.Ytlcliogddepmiaa

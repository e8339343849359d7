/-
  What is proved here: the walk of the law FnRowsCut, for lists of at most 2^20 elements; no other condition.
-/
import Derived.Test.YtiioojnoggcnmaaRowsHelp
import Derived.Test.YtiioojnoggcnmaaJoin
import Derived.Test.YtiioojnoggcnmaaSame
namespace Go.Proofs.Ytiioojnoggcnmaa
open Go.RowKit
set_option linter.unusedVariables false

set_option maxRecDepth 100000 in
set_option maxHeartbeats 2000000 in
theorem walk_FnRowsCut (v0 : Value) (x0 : List (Int × Int × Int)) (v1 : Value) (x1 : List Int) (v2 : Value) (x2 : List Int) (w : World) (h0 : Ros3 w v0 x0) (f0 : ∀ x ∈ x0, (Lit.int .i64 x.1).wf = true ∧ (Lit.int .i64 x.2.1).wf = true ∧ (Lit.int .i64 x.2.2).wf = true) (n0 : x0.length ≤ 1048576) (h1 : Ro w v1 x1) (f1 : ∀ x ∈ x1, (Lit.int .i64 x).wf = true) (n1 : x1.length ≤ 1048576) (h2 : Ro w v2 x2) (f2 : ∀ x ∈ x2, (Lit.int .i64 x).wf = true) (n2 : x2.length ≤ 1048576) :
    Calls Try.prog 8 #[v0, v1, v2] w fun e w' => e = .returned (.bool true) ∧ Below w.heap.size w w' := by
  have R_v0 := Lib.hid h0
  clear h0 f0
  have R_v1 := Lib.hid h1
  clear h1 f1
  have R_v2 := Lib.hid h2
  clear h2 f2
  obtain ⟨A0, c0, b0, off0, rfl, hnc0, hcm0, -, -⟩ := R_v0.out.shape
  obtain ⟨l0, hl0⟩ : ∃ n, n = x0.length := ⟨_, rfl⟩
  rw [← hl0] at R_v0 n0 hnc0 ⊢
  have HL0 := Lib.hid hl0
  clear hl0
  unfold maxLen at hcm0
  go_enter Try.func8, Try.ntmps8
  go_wp2_with fail
  refine (sortRows_any _ _ x0 x1 _ R_v0.out R_v1.out (by rw [← HL0.out]; omega) (by omega)).mono ?_
  rintro e W1 ⟨u1, rfl, o1, b1⟩
  replace R_v0 := Lib.hid (R_v0.out.below b1)
  replace R_v1 := Lib.hid (R_v1.out.below b1)
  replace R_v2 := Lib.hid (R_v2.out.below b1)
  have bt1 : Below w.heap.size w W1 := b1
  clear b1
  have R_u1 := Lib.hid o1.ros3
  clear o1
  go_wp2_with fail
  refine (sortRows_any _ _ (rsort x0 x1) x2 _ R_u1.out R_v2.out (by rw [rsort_len, ← HL0.out]; omega) (by omega)).mono ?_
  rintro e W2 ⟨u2, rfl, o2, b2⟩
  replace R_v0 := Lib.hid (R_v0.out.below b2)
  replace R_v1 := Lib.hid (R_v1.out.below b2)
  replace R_v2 := Lib.hid (R_v2.out.below b2)
  replace R_u1 := Lib.hid (R_u1.out.below b2)
  have bt2 : Below w.heap.size w W2 := bt1.trans (b2.mono bt1.size)
  clear bt1
  clear b2
  have R_u2 := Lib.hid o2.ros3
  clear o2
  go_wp2_with fail
  refine (joined_any _ _ x1 x2 _ R_v1.out R_v2.out (by omega)).mono ?_
  rintro e W3 ⟨u3, rfl, o3, b3⟩
  replace R_v0 := Lib.hid (R_v0.out.below b3)
  replace R_v1 := Lib.hid (R_v1.out.below b3)
  replace R_v2 := Lib.hid (R_v2.out.below b3)
  replace R_u1 := Lib.hid (R_u1.out.below b3)
  replace R_u2 := Lib.hid (R_u2.out.below b3)
  have bt3 : Below w.heap.size w W3 := bt2.trans (b3.mono bt2.size)
  clear bt2
  clear b3
  have R_u3 := Lib.hid o3.ro
  clear o3
  go_wp2_with fail
  refine (sortRows_any _ _ x0 (x1 ++ x2) _ R_v0.out R_u3.out (by rw [← HL0.out]; omega) (by rw [List.length_append]; omega)).mono ?_
  rintro e W4 ⟨u4, rfl, o4, b4⟩
  replace R_v0 := Lib.hid (R_v0.out.below b4)
  replace R_v1 := Lib.hid (R_v1.out.below b4)
  replace R_v2 := Lib.hid (R_v2.out.below b4)
  replace R_u1 := Lib.hid (R_u1.out.below b4)
  replace R_u2 := Lib.hid (R_u2.out.below b4)
  replace R_u3 := Lib.hid (R_u3.out.below b4)
  have bt4 : Below w.heap.size w W4 := bt3.trans (b4.mono bt3.size)
  clear bt3
  clear b4
  have R_u4 := Lib.hid o4.ros3
  clear o4
  go_wp2_with fail
  refine (sameRows_yes _ _ _ _ _ R_u2.out R_u4.out (rsort_append x0 x1 x2)).mono ?_
  rintro e W5 ⟨rfl, b5⟩
  replace R_v0 := Lib.hid (R_v0.out.below b5)
  replace R_v1 := Lib.hid (R_v1.out.below b5)
  replace R_v2 := Lib.hid (R_v2.out.below b5)
  replace R_u1 := Lib.hid (R_u1.out.below b5)
  replace R_u2 := Lib.hid (R_u2.out.below b5)
  replace R_u3 := Lib.hid (R_u3.out.below b5)
  replace R_u4 := Lib.hid (R_u4.out.below b5)
  have bt5 : Below w.heap.size w W5 := bt4.trans (b5.mono bt4.size)
  clear bt4
  clear b5
  clear R_u1
  clear R_u2
  clear R_u3
  clear R_u4
  go_wp2_with fail
  refine (sortRows_any _ (.slice none 0 0) x0 [] _ R_v0.out (ro_nil _) (by rw [← HL0.out]; omega) (by simp)).mono ?_
  rintro e W6 ⟨u5, rfl, o6, b6⟩
  replace R_v0 := Lib.hid (R_v0.out.below b6)
  replace R_v1 := Lib.hid (R_v1.out.below b6)
  replace R_v2 := Lib.hid (R_v2.out.below b6)
  have bt6 : Below w.heap.size w W6 := bt5.trans (b6.mono bt5.size)
  clear bt5
  clear b6
  have R_u5 := Lib.hid o6.ros3
  clear o6
  obtain ⟨A_u5, c_u5, b_u5, off_u5, rfl, hnc_u5, hcm_u5, -, -⟩ := R_u5.out.shape
  obtain ⟨m, h_m⟩ : ∃ n, n = (rsort x0 []).length := ⟨_, rfl⟩
  rw [← h_m] at R_u5 hnc_u5 ⊢
  have b_m : m ≤ 1048576 := by rw [h_m]; rw [rsort_len, ← HL0.out]; exact n0
  have H_m := Lib.hid h_m
  clear h_m
  unfold maxLen at hcm_u5
  obtain rfl : m = l0 := by have h := H_m.out; rw [rsort_len, ← HL0.out] at h; exact h
  go_wp2_with fail
  refine (works_any _).mono ?_
  rintro e W7 ⟨rfl, b7⟩
  replace R_v0 := Lib.hid (R_v0.out.below b7)
  replace R_v1 := Lib.hid (R_v1.out.below b7)
  replace R_v2 := Lib.hid (R_v2.out.below b7)
  replace R_u5 := Lib.hid (R_u5.out.below b7)
  have bt7 : Below w.heap.size w W7 := bt6.trans (b7.mono bt6.size)
  clear bt6
  clear b7
  go_wp2_with fail
  go_ret
  exact ⟨rfl, bt7⟩

end Go.Proofs.Ytiioojnoggcnmaa

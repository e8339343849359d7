/-
  What is proved here: the walk of the law FnSetsApart, for lists of at most 2^20 elements; no other condition.
-/
import Derived.Test.YtgpkobpjgmdegaaMeet
import Derived.Test.YtgpkobpjgmdegaaSame
namespace Go.Proofs.Ytgpkobpjgmdegaa
open Go.RowKit
set_option linter.unusedVariables false

set_option maxRecDepth 100000 in
set_option maxHeartbeats 2000000 in
theorem walk_FnSetsApart (v0 : Value) (x0 : List Int) (v1 : Value) (x1 : List Int) (w : World) (h0 : Ro w v0 x0) (f0 : ∀ x ∈ x0, (Lit.int .i64 x).wf = true) (n0 : x0.length ≤ 1048576) (h1 : Ro w v1 x1) (f1 : ∀ x ∈ x1, (Lit.int .i64 x).wf = true) (n1 : x1.length ≤ 1048576) :
    Calls Try.prog 12 #[v0, v1] w fun e w' => e = .returned (.bool true) ∧ Below w.heap.size w w' := by
  have R_v0 := Lib.hid h0
  clear h0 f0
  have R_v1 := Lib.hid h1
  clear h1 f1
  go_enter Try.func12, Try.ntmps12
  go_wp2_with fail
  refine (meet_any _ _ x0 x1 _ R_v0.out R_v1.out (by omega) (by omega)).mono ?_
  rintro e W1 ⟨u1, rfl, o1, b1⟩
  replace R_v0 := Lib.hid (R_v0.out.below b1)
  replace R_v1 := Lib.hid (R_v1.out.below b1)
  have bt1 : Below w.heap.size w W1 := b1
  clear b1
  have R_u1 := Lib.hid o1.ro
  clear o1
  obtain ⟨A_u1, c_u1, b_u1, off_u1, rfl, hnc_u1, hcm_u1, _, _⟩ := R_u1.out.shape
  obtain ⟨m1, h_m1⟩ : ∃ n, n = (meet x0 x1).length := ⟨_, rfl⟩
  rw [← h_m1] at R_u1 hnc_u1 ⊢
  have b_m1 : m1 ≤ 1048576 := by rw [h_m1]; have := meet_len x0 x1; omega
  have H_m1 := Lib.hid h_m1
  clear h_m1
  unfold maxLen at hcm_u1
  go_wp2_with fail
  refine (minus_any _ _ x0 x1 _ R_v0.out R_v1.out (by omega) (by omega)).mono ?_
  rintro e W2 ⟨u2, rfl, o2, b2⟩
  replace R_v0 := Lib.hid (R_v0.out.below b2)
  replace R_v1 := Lib.hid (R_v1.out.below b2)
  replace R_u1 := Lib.hid (R_u1.out.below b2)
  have bt2 : Below w.heap.size w W2 := bt1.trans (b2.mono bt1.size)
  clear bt1
  clear b2
  have R_u2 := Lib.hid o2.ro
  clear o2
  obtain ⟨A_u2, c_u2, b_u2, off_u2, rfl, hnc_u2, hcm_u2, _, _⟩ := R_u2.out.shape
  obtain ⟨m2, h_m2⟩ : ∃ n, n = (minus x0 x1).length := ⟨_, rfl⟩
  rw [← h_m2] at R_u2 hnc_u2 ⊢
  have b_m2 : m2 ≤ 1048576 := by rw [h_m2]; have := minus_len x0 x1; omega
  have H_m2 := Lib.hid h_m2
  clear h_m2
  unfold maxLen at hcm_u2
  go_wp2_with fail
  refine (unite_any _ _ (meet x0 x1) (minus x0 x1) _ R_u1.out R_u2.out (by have := meet_len x0 x1; have := minus_len x0 x1; omega)).mono ?_
  rintro e W3 ⟨u3, rfl, o3, b3⟩
  replace R_v0 := Lib.hid (R_v0.out.below b3)
  replace R_v1 := Lib.hid (R_v1.out.below b3)
  replace R_u1 := Lib.hid (R_u1.out.below b3)
  replace R_u2 := Lib.hid (R_u2.out.below b3)
  have bt3 : Below w.heap.size w W3 := bt2.trans (b3.mono bt2.size)
  clear bt2
  clear b3
  have R_u3 := Lib.hid o3.ro
  clear o3
  go_wp2_with fail
  refine (unite_any _ (.slice none 0 0) x0 [] _ R_v0.out (ro_nil _) (by simp; omega)).mono ?_
  rintro e W4 ⟨u4, rfl, o4, b4⟩
  replace R_v0 := Lib.hid (R_v0.out.below b4)
  replace R_v1 := Lib.hid (R_v1.out.below b4)
  replace R_u1 := Lib.hid (R_u1.out.below b4)
  replace R_u2 := Lib.hid (R_u2.out.below b4)
  replace R_u3 := Lib.hid (R_u3.out.below b4)
  have bt4 : Below w.heap.size w W4 := bt3.trans (b4.mono bt3.size)
  clear bt3
  clear b4
  have R_u4 := Lib.hid o4.ro
  clear o4
  go_wp2_with fail
  refine (same_yes _ _ _ _ _ R_u3.out R_u4.out (set_apart1 _ _)).mono ?_
  rintro e W5 ⟨rfl, b5⟩
  replace R_v0 := Lib.hid (R_v0.out.below b5)
  replace R_v1 := Lib.hid (R_v1.out.below b5)
  replace R_u1 := Lib.hid (R_u1.out.below b5)
  replace R_u2 := Lib.hid (R_u2.out.below b5)
  replace R_u3 := Lib.hid (R_u3.out.below b5)
  replace R_u4 := Lib.hid (R_u4.out.below b5)
  have bt5 : Below w.heap.size w W5 := bt4.trans (b5.mono bt4.size)
  clear bt4
  clear b5
  clear R_u3
  clear R_u4
  go_wp2_with fail
  refine (meet_any _ _ (meet x0 x1) (minus x0 x1) _ R_u1.out R_u2.out (by have := meet_len x0 x1; omega) (by have := minus_len x0 x1; omega)).mono ?_
  rintro e W6 ⟨u5, rfl, o6, b6⟩
  replace R_v0 := Lib.hid (R_v0.out.below b6)
  replace R_v1 := Lib.hid (R_v1.out.below b6)
  replace R_u1 := Lib.hid (R_u1.out.below b6)
  replace R_u2 := Lib.hid (R_u2.out.below b6)
  have bt6 : Below w.heap.size w W6 := bt5.trans (b6.mono bt5.size)
  clear bt5
  clear b6
  have R_u5 := Lib.hid o6.ro
  clear o6
  obtain ⟨A_u5, c_u5, b_u5, off_u5, rfl, hnc_u5, hcm_u5, _, _⟩ := R_u5.out.shape
  obtain ⟨m5, h_m5⟩ : ∃ n, n = (meet (meet x0 x1) (minus x0 x1)).length := ⟨_, rfl⟩
  rw [← h_m5] at R_u5 hnc_u5 ⊢
  have b_m5 : m5 ≤ 0 := by rw [h_m5]; rw [set_apart2]; simp
  have H_m5 := Lib.hid h_m5
  clear h_m5
  unfold maxLen at hcm_u5
  obtain rfl : m5 = 0 := by omega
  go_wp2_with fail
  refine (unite_any _ (.slice none 0 0) x0 [] _ R_v0.out (ro_nil _) (by simp; omega)).mono ?_
  rintro e W7 ⟨u6, rfl, o7, b7⟩
  replace R_v0 := Lib.hid (R_v0.out.below b7)
  replace R_v1 := Lib.hid (R_v1.out.below b7)
  replace R_u1 := Lib.hid (R_u1.out.below b7)
  replace R_u2 := Lib.hid (R_u2.out.below b7)
  replace R_u5 := Lib.hid (R_u5.out.below b7)
  have bt7 : Below w.heap.size w W7 := bt6.trans (b7.mono bt6.size)
  clear bt6
  clear b7
  have R_u6 := Lib.hid o7.ro
  clear o7
  obtain ⟨A_u6, c_u6, b_u6, off_u6, rfl, hnc_u6, hcm_u6, _, _⟩ := R_u6.out.shape
  obtain ⟨m6, h_m6⟩ : ∃ n, n = (uni (x0 ++ [])).length := ⟨_, rfl⟩
  rw [← h_m6] at R_u6 hnc_u6 ⊢
  have b_m6 : m6 ≤ 1048576 := by rw [h_m6]; rw [List.append_nil]; have := uni_len x0; omega
  have H_m6 := Lib.hid h_m6
  clear h_m6
  unfold maxLen at hcm_u6
  have hsum : m1 + m2 = m6 := by rw [H_m1.out, H_m2.out, H_m6.out]; exact set_apart3 x0 x1
  have hsB : ((m1 : Int) + (m2 : Int) == (m6 : Int)) = true := by simp; omega
  go_wp2_with fail
  refine (works_any _).mono ?_
  rintro e W8 ⟨rfl, b8⟩
  replace R_v0 := Lib.hid (R_v0.out.below b8)
  replace R_v1 := Lib.hid (R_v1.out.below b8)
  replace R_u1 := Lib.hid (R_u1.out.below b8)
  replace R_u2 := Lib.hid (R_u2.out.below b8)
  replace R_u5 := Lib.hid (R_u5.out.below b8)
  replace R_u6 := Lib.hid (R_u6.out.below b8)
  have bt8 : Below w.heap.size w W8 := bt7.trans (b8.mono bt7.size)
  clear bt7
  clear b8
  go_wp2_with fail
  go_ret
  exact ⟨rfl, bt8⟩

end Go.Proofs.Ytgpkobpjgmdegaa

/-
  What is proved here: the walk of the law FnMergeJoined, for lists of at most 2^20 elements; no other condition.
-/
import Derived.Test.YtpkdjdofbedncaaSpans
namespace Go.Proofs.Ytpkdjdofbedncaa
open Go.RowKit
set_option linter.unusedVariables false

theorem one_span (W : World) : Ros2 (W.alloc (.cells #[.int .i64 1, .int .i64 2] 37)) (.slice (some ⟨W.heap.size, 0, none⟩) 1 1) [(1, 2)] :=
  ⟨_, _, W.heap.size, 0, rfl, Nat.le_refl _, by unfold maxLen; omega, fun _ => ⟨rfl, by simp⟩, fun i x j y hx hj hy => by
    match i, hx with
    | 0, hx =>
      simp [enc2] at hx
      subst hx
      match j, hy with
      | 0, hy => simp at hy; subst hy; simp [go_sem]
      | 1, hy => simp at hy; subst hy; simp [go_sem]⟩
theorem merged_one : merged [((1 : Int), (2 : Int))] = [(1, 2)] := merged_norm ⟨fun s hs => by simp at hs; subst hs; decide, by simp⟩

set_option maxRecDepth 100000 in
set_option maxHeartbeats 2000000 in
theorem walk_FnMergeJoined (v0 : Value) (x0 : List (Int × Int)) (v1 : Value) (x1 : List (Int × Int)) (w : World) (h0 : Ros2 w v0 x0) (f0 : ∀ x ∈ x0, (Lit.int .i64 x.1).wf = true ∧ (Lit.int .i64 x.2).wf = true) (n0 : x0.length ≤ 1048576) (h1 : Ros2 w v1 x1) (f1 : ∀ x ∈ x1, (Lit.int .i64 x.1).wf = true ∧ (Lit.int .i64 x.2).wf = true) (n1 : x1.length ≤ 1048576) :
    Calls Try.prog 5 #[v0, v1] w fun e w' => e = .returned (.bool true) ∧ Below w.heap.size w w' := by
  have R_v0 := Lib.hid h0
  clear h0 f0
  have R_v1 := Lib.hid h1
  clear h1 f1
  go_enter Try.func5, Try.ntmps5
  go_wp2_with fail
  refine (merge_any _ x0 _ R_v0.out (by omega)).mono ?_
  rintro e W1 ⟨va, rfl, o1, b1⟩
  replace R_v0 := Lib.hid (R_v0.out.below b1)
  replace R_v1 := Lib.hid (R_v1.out.below b1)
  have bt1 : Below w.heap.size w W1 := b1
  clear b1
  have R_va := Lib.hid o1.ros2
  clear o1
  go_wp2_with fail
  refine (merge_any _ x1 _ R_v1.out (by omega)).mono ?_
  rintro e W2 ⟨vb, rfl, o2, b2⟩
  replace R_v0 := Lib.hid (R_v0.out.below b2)
  replace R_v1 := Lib.hid (R_v1.out.below b2)
  replace R_va := Lib.hid (R_va.out.below b2)
  have bt2 : Below w.heap.size w W2 := bt1.trans (b2.mono bt1.size)
  clear bt1
  clear b2
  have R_vb := Lib.hid o2.ros2
  clear o2
  go_wp2_with fail
  refine (joinedSpans_any _ _ (merged x0) (merged x1) _ R_va.out R_vb.out (by have h0 := merged_len x0; have h1 := merged_len x1; omega)).mono ?_
  rintro e W3 ⟨vc, rfl, o3, b3⟩
  replace R_v0 := Lib.hid (R_v0.out.below b3)
  replace R_v1 := Lib.hid (R_v1.out.below b3)
  replace R_va := Lib.hid (R_va.out.below b3)
  replace R_vb := Lib.hid (R_vb.out.below b3)
  have bt3 : Below w.heap.size w W3 := bt2.trans (b3.mono bt2.size)
  clear bt2
  clear b3
  have R_vc := Lib.hid o3.ros2
  clear o3
  go_wp2_with fail
  refine (merge_any _ (merged x0 ++ merged x1) _ R_vc.out (by rw [List.length_append]; have h0 := merged_len x0; have h1 := merged_len x1; omega)).mono ?_
  rintro e W4 ⟨vd, rfl, o4, b4⟩
  replace R_v0 := Lib.hid (R_v0.out.below b4)
  replace R_v1 := Lib.hid (R_v1.out.below b4)
  replace R_va := Lib.hid (R_va.out.below b4)
  replace R_vb := Lib.hid (R_vb.out.below b4)
  replace R_vc := Lib.hid (R_vc.out.below b4)
  have bt4 : Below w.heap.size w W4 := bt3.trans (b4.mono bt3.size)
  clear bt3
  clear b4
  have R_vd := Lib.hid o4.ros2
  clear o4
  go_wp2_with fail
  refine (joinedSpans_any _ _ x0 x1 _ R_v0.out R_v1.out (by omega)).mono ?_
  rintro e W5 ⟨ve, rfl, o5, b5⟩
  replace R_v0 := Lib.hid (R_v0.out.below b5)
  replace R_v1 := Lib.hid (R_v1.out.below b5)
  replace R_va := Lib.hid (R_va.out.below b5)
  replace R_vb := Lib.hid (R_vb.out.below b5)
  replace R_vc := Lib.hid (R_vc.out.below b5)
  replace R_vd := Lib.hid (R_vd.out.below b5)
  have bt5 : Below w.heap.size w W5 := bt4.trans (b5.mono bt4.size)
  clear bt4
  clear b5
  have R_ve := Lib.hid o5.ros2
  clear o5
  go_wp2_with fail
  refine (merge_any _ (x0 ++ x1) _ R_ve.out (by rw [List.length_append]; omega)).mono ?_
  rintro e W6 ⟨vf, rfl, o6, b6⟩
  replace R_v0 := Lib.hid (R_v0.out.below b6)
  replace R_v1 := Lib.hid (R_v1.out.below b6)
  replace R_va := Lib.hid (R_va.out.below b6)
  replace R_vb := Lib.hid (R_vb.out.below b6)
  replace R_vc := Lib.hid (R_vc.out.below b6)
  replace R_vd := Lib.hid (R_vd.out.below b6)
  replace R_ve := Lib.hid (R_ve.out.below b6)
  have bt6 : Below w.heap.size w W6 := bt5.trans (b6.mono bt5.size)
  clear bt5
  clear b6
  have R_vf := Lib.hid o6.ros2
  clear o6
  go_wp2_with fail
  refine (sameSpans_yes _ _ _ _ _ R_vd.out R_vf.out (merge_joined x0 x1)).mono ?_
  rintro e W7 ⟨rfl, b7⟩
  replace R_v0 := Lib.hid (R_v0.out.below b7)
  replace R_v1 := Lib.hid (R_v1.out.below b7)
  replace R_va := Lib.hid (R_va.out.below b7)
  replace R_vb := Lib.hid (R_vb.out.below b7)
  replace R_vc := Lib.hid (R_vc.out.below b7)
  replace R_vd := Lib.hid (R_vd.out.below b7)
  replace R_ve := Lib.hid (R_ve.out.below b7)
  replace R_vf := Lib.hid (R_vf.out.below b7)
  have bt7 : Below w.heap.size w W7 := bt6.trans (b7.mono bt6.size)
  clear bt6
  clear b7
  clear R_va
  clear R_vb
  clear R_vc
  clear R_vd
  clear R_ve
  clear R_vf
  go_wp2_with fail
  refine (merge_some _ [(1, 2)] _ (one_span _) (by simp)).mono ?_
  rw [merged_one]
  rintro e W8 ⟨g8, k8, cap8, rfl, o8, b8⟩
  obtain ⟨_, _, hl8, _, _⟩ := o8.lt
  have hk8 : k8 = 1 := by rw [← hl8]; rfl
  subst hk8
  have bt8 : Below w.heap.size w W8 := (bt7.alloc bt7.size _).trans (b8.mono (by have := bt7.size; simp; omega))
  clear bt7 b8 o8
  go_wp2_with fail
  go_ret
  exact ⟨rfl, bt8⟩

end Go.Proofs.Ytpkdjdofbedncaa

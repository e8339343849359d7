/-
  What is proved here: the walk of the law FnBagEmpty, for lists of at most 2^20 elements; no other condition.
-/
import Derived.Test.YtgnjncadecelhaaBag
import Derived.Test.YtgnjncadecelhaaOrders
import Derived.Test.YtgnjncadecelhaaBagLaws
import Derived.Test.YtgnjncadecelhaaMir
import Derived.Test.YtgnjncadecelhaaJoin
import Derived.Test.YtgnjncadecelhaaSame
namespace Go.Proofs.Ytgnjncadecelhaa
open Go.RowKit
set_option linter.unusedVariables false

set_option maxRecDepth 100000 in
set_option maxHeartbeats 2000000 in
theorem walk_FnBagEmpty (v0 : Value) (x0 : List Int) (a1 : Int) (w : World) (h0 : Ro w v0 x0) (f0 : ∀ x ∈ x0, (Lit.int .i64 x).wf = true) (n0 : x0.length ≤ 1048576) (f1 : (Lit.int .i64 a1).wf = true) :
    Calls Try.prog 6 #[v0, .int .i64 a1] w fun e w' => e = .returned (.bool true) ∧ Below w.heap.size w w' := by
  have R_v0 := Lib.hid h0
  clear h0 f0
  clear f1
  obtain ⟨A0, c0, b0, off0, rfl, hnc0, hcm0, -, -⟩ := R_v0.out.shape
  obtain ⟨l0, hl0⟩ : ∃ n, n = x0.length := ⟨_, rfl⟩
  rw [← hl0] at R_v0 n0 hnc0 ⊢
  have HL0 := Lib.hid hl0
  clear hl0
  unfold maxLen at hcm0
  go_enter Try.func6, Try.ntmps6
  go_wp2_with fail
  refine (mirrored_any _ x0 _ R_v0.out (by rw [← HL0.out]; omega)).mono ?_
  rintro e W1 ⟨u1, rfl, o1, b1⟩
  replace R_v0 := Lib.hid (R_v0.out.below b1)
  have bt1 : Below w.heap.size w W1 := b1
  clear b1
  have R_u1 := Lib.hid o1.ro
  clear o1
  go_wp2_with fail
  have hal : Below W1.heap.size W1 (W1.alloc (.cells #[.int .i64 a1] 3)) := (Below.refl _ _).alloc (Nat.le_refl _) _
  have R_s : Hid (Ro (W1.alloc (.cells #[.int .i64 a1] 3)) (.slice (some ⟨W1.heap.size, 0, none⟩) 1 1) [a1]) :=
    ⟨_, _, W1.heap.size, 0, rfl, Nat.le_refl _, by unfold maxLen; omega, fun _ => ⟨rfl, by simp⟩, fun k x hx => by
      match k, hx with
      | 0, hx => simp at hx; subst hx; simp [go_sem]⟩
  refine (joined_any _ _ x0 [a1] _ (R_v0.out.below hal) R_s.out (by rw [← HL0.out]; simp; omega)).mono ?_
  rintro e W2 ⟨u2, rfl, o2, b2⟩
  have b2' : Below W1.heap.size W1 W2 := hal.trans (b2.mono (by simp))
  replace R_v0 := Lib.hid (R_v0.out.below b2')
  replace R_u1 := Lib.hid (R_u1.out.below b2')
  have bt2 : Below w.heap.size w W2 := bt1.trans (b2'.mono bt1.size)
  have R_u2 := Lib.hid o2.ro
  clear o2 b2 b2' R_s hal bt1
  go_wp2_with fail
  refine (orders_any 1 _ (x0 ++ [a1]) _ R_u2.out (by rw [List.length_append, ← HL0.out]; simp; omega)).mono ?_
  rintro e W3 ⟨u3, rfl, o3, b3⟩
  replace R_v0 := Lib.hid (R_v0.out.below b3)
  replace R_u1 := Lib.hid (R_u1.out.below b3)
  replace R_u2 := Lib.hid (R_u2.out.below b3)
  have bt3 : Below w.heap.size w W3 := bt2.trans (b3.mono bt2.size)
  clear bt2
  clear b3
  have R_u3 := Lib.hid o3.ros2
  clear o3
  go_wp2_with fail
  refine (bag_any _ _ x0.reverse _ _ R_u1.out R_u3.out (by rw [List.length_reverse, List.length_map, List.length_append, ← HL0.out]; simp; omega)).mono ?_
  rw [show bagRun ([], asc x0.reverse) ((x0 ++ [a1]).map fun v => ((1 : Int), v)) = _ from run_empty x0 a1]
  rintro e W4 ⟨t, bg, rfl, o4, p4, -, b4⟩
  replace R_v0 := Lib.hid (R_v0.out.below b4)
  replace R_u1 := Lib.hid (R_u1.out.below b4)
  replace R_u2 := Lib.hid (R_u2.out.below b4)
  replace R_u3 := Lib.hid (R_u3.out.below b4)
  have bt4 : Below w.heap.size w W4 := bt3.trans (b4.mono bt3.size)
  clear bt3
  clear b4
  have R_t : Hid (Ro W4 t (List.replicate x0.length (1 : Int) ++ [0])) := o4.ro
  have R_bg : Hid (Ro W4 bg (([] : List Int))) := p4.ro
  clear o4 p4
  obtain ⟨A_t, c_t, b_t, off_t, rfl, hnc_t, hcm_t, -, -⟩ := R_t.out.shape
  obtain ⟨m1, h_m1⟩ : ∃ n, n = (List.replicate x0.length (1 : Int) ++ [0]).length := ⟨_, rfl⟩
  rw [← h_m1] at R_t hnc_t ⊢
  have b_m1 : m1 ≤ 1048577 := by rw [h_m1]; rw [List.length_append, List.length_replicate, ← HL0.out]; simp; omega
  have H_m1 := Lib.hid h_m1
  clear h_m1
  unfold maxLen at hcm_t
  obtain ⟨A_bg, c_bg, b_bg, off_bg, rfl, hnc_bg, hcm_bg, -, -⟩ := R_bg.out.shape
  obtain ⟨m2, h_m2⟩ : ∃ n, n = (([] : List Int)).length := ⟨_, rfl⟩
  rw [← h_m2] at R_bg hnc_bg ⊢
  have b_m2 : m2 ≤ 0 := by rw [h_m2]; simp
  have H_m2 := Lib.hid h_m2
  clear h_m2
  unfold maxLen at hcm_bg
  obtain rfl : m2 = 0 := by omega
  obtain rfl : m1 = l0 + 1 := by have h := H_m1.out; rw [List.length_append, List.length_replicate, ← HL0.out] at h; exact h
  obtain ⟨b1, o1, rfl, hc1, -⟩ := R_t.out.at (k := l0) (x := 0) (by rw [List.getElem?_append_right (by rw [List.length_replicate, ← HL0.out]; exact Nat.le_refl _), List.length_replicate, ← HL0.out, Nat.sub_self]; rfl)
  have z1 : (l0 : Int) < (l0 : Int) + 1 := by omega
  have z2 : (0 : Int) ≤ (l0 : Int) := by omega
  go_wp2_with fail
  refine (works_any _).mono ?_
  rintro e W5 ⟨rfl, b5⟩
  replace R_v0 := Lib.hid (R_v0.out.below b5)
  replace R_u1 := Lib.hid (R_u1.out.below b5)
  replace R_u2 := Lib.hid (R_u2.out.below b5)
  replace R_u3 := Lib.hid (R_u3.out.below b5)
  replace R_t := Lib.hid (R_t.out.below b5)
  replace R_bg := Lib.hid (R_bg.out.below b5)
  have bt5 : Below w.heap.size w W5 := bt4.trans (b5.mono bt4.size)
  clear bt4
  clear b5
  go_wp2_with fail
  go_ret
  exact ⟨rfl, bt5⟩

end Go.Proofs.Ytgnjncadecelhaa

/-
  What is proved here: the walk of the law FnSwapsSort; no other condition.
-/
import Derived.Test.YtiioojnoggcnmaaSwaps
import Derived.Test.YtiioojnoggcnmaaMir
import Derived.Test.YtiioojnoggcnmaaSame
namespace Go.Proofs.Ytiioojnoggcnmaa
open Go.RowKit
set_option linter.unusedVariables false

set_option maxRecDepth 100000 in
set_option maxHeartbeats 2000000 in
theorem walk_FnSwapsSort (v0 : Value) (x0 : List Int) (w : World) (h0 : Ro w v0 x0) (f0 : ∀ x ∈ x0, (Lit.int .i64 x).wf = true) (n0 : x0.length * 8 ≤ 140737488351232) :
    Calls Try.prog 3 #[v0] w fun e w' => e = .returned (.bool true) ∧ Below w.heap.size w w' := by
  have R_v0 := Lib.hid h0
  clear h0 f0
  obtain ⟨A0, c0, b0, off0, rfl, hnc0, hcm0, -, -⟩ := R_v0.out.shape
  obtain ⟨l0, hl0⟩ : ∃ n, n = x0.length := ⟨_, rfl⟩
  rw [← hl0] at R_v0 n0 hnc0 ⊢
  have HL0 := Lib.hid hl0
  clear hl0
  unfold maxLen at hcm0
  go_enter Try.func3, Try.ntmps3
  go_wp2_with fail
  refine (swaps_any _ x0 _ R_v0.out (by rw [← HL0.out]; omega)).mono ?_
  rw [← HL0.out]
  rintro e W1 ⟨g1, cp1, k1, rfl, o1, b1, hk1, hd1⟩
  replace R_v0 := Lib.hid (R_v0.out.below b1)
  have bt1 : Below w.heap.size w W1 := b1
  clear b1
  have R_u1 := Lib.hid o1.ro
  clear o1 hk1 hd1
  go_wp2_with fail
  refine (stableSwaps_any _ x0 _ R_v0.out (by rw [← HL0.out]; omega)).mono ?_
  rw [← HL0.out]
  rintro e W2 ⟨g2, cp2, k2, rfl, o2, b2, hk2, hd2⟩
  replace R_v0 := Lib.hid (R_v0.out.below b2)
  replace R_u1 := Lib.hid (R_u1.out.below b2)
  have bt2 : Below w.heap.size w W2 := bt1.trans (b2.mono bt1.size)
  clear bt1
  clear b2
  have R_u2 := Lib.hid o2.ro
  clear o2 hk2 hd2
  go_wp2_with fail
  refine (fallingSwaps_any _ x0 _ R_v0.out (by rw [← HL0.out]; omega)).mono ?_
  rw [← HL0.out]
  rintro e W3 ⟨g3, cp3, k3, rfl, o3, b3, hk3, hd3⟩
  replace R_v0 := Lib.hid (R_v0.out.below b3)
  replace R_u1 := Lib.hid (R_u1.out.below b3)
  replace R_u2 := Lib.hid (R_u2.out.below b3)
  have bt3 : Below w.heap.size w W3 := bt2.trans (b3.mono bt2.size)
  clear bt2
  clear b3
  have R_u3 := Lib.hid o3.ro
  clear o3 hk3 hd3
  go_wp2_with fail
  refine (ascending_any _ x0 _ R_v0.out (by rw [← HL0.out]; omega)).mono ?_
  rintro e W4 ⟨u4, rfl, o4, b4⟩
  replace R_v0 := Lib.hid (R_v0.out.below b4)
  replace R_u1 := Lib.hid (R_u1.out.below b4)
  replace R_u2 := Lib.hid (R_u2.out.below b4)
  replace R_u3 := Lib.hid (R_u3.out.below b4)
  have bt4 : Below w.heap.size w W4 := bt3.trans (b4.mono bt3.size)
  clear bt3
  clear b4
  have R_u4 := Lib.hid o4.ro
  clear o4
  go_wp2_with fail
  refine (same_yes _ _ _ _ _ R_u1.out R_u4.out rfl).mono ?_
  rintro e W5 ⟨rfl, b5⟩
  replace R_v0 := Lib.hid (R_v0.out.below b5)
  replace R_u1 := Lib.hid (R_u1.out.below b5)
  replace R_u2 := Lib.hid (R_u2.out.below b5)
  replace R_u3 := Lib.hid (R_u3.out.below b5)
  replace R_u4 := Lib.hid (R_u4.out.below b5)
  have bt5 : Below w.heap.size w W5 := bt4.trans (b5.mono bt4.size)
  clear bt4
  clear b5
  go_wp2_with fail
  refine (same_yes _ _ _ _ _ R_u2.out R_u4.out rfl).mono ?_
  rintro e W6 ⟨rfl, b6⟩
  replace R_v0 := Lib.hid (R_v0.out.below b6)
  replace R_u1 := Lib.hid (R_u1.out.below b6)
  replace R_u2 := Lib.hid (R_u2.out.below b6)
  replace R_u3 := Lib.hid (R_u3.out.below b6)
  replace R_u4 := Lib.hid (R_u4.out.below b6)
  have bt6 : Below w.heap.size w W6 := bt5.trans (b6.mono bt5.size)
  clear bt5
  clear b6
  go_wp2_with fail
  refine (mirrored_any _ (asc x0).reverse _ R_u3.out (by rw [List.length_reverse, asc_len, ← HL0.out]; omega)).mono ?_
  rintro e W7 ⟨u5, rfl, o7, b7⟩
  replace R_v0 := Lib.hid (R_v0.out.below b7)
  replace R_u1 := Lib.hid (R_u1.out.below b7)
  replace R_u2 := Lib.hid (R_u2.out.below b7)
  replace R_u3 := Lib.hid (R_u3.out.below b7)
  replace R_u4 := Lib.hid (R_u4.out.below b7)
  have bt7 : Below w.heap.size w W7 := bt6.trans (b7.mono bt6.size)
  clear bt6
  clear b7
  have R_u5 := Lib.hid o7.ro
  clear o7
  go_wp2_with fail
  refine (same_yes _ _ _ _ _ R_u5.out R_u4.out (List.reverse_reverse _)).mono ?_
  rintro e W8 ⟨rfl, b8⟩
  replace R_v0 := Lib.hid (R_v0.out.below b8)
  replace R_u1 := Lib.hid (R_u1.out.below b8)
  replace R_u2 := Lib.hid (R_u2.out.below b8)
  replace R_u3 := Lib.hid (R_u3.out.below b8)
  replace R_u4 := Lib.hid (R_u4.out.below b8)
  replace R_u5 := Lib.hid (R_u5.out.below b8)
  have bt8 : Below w.heap.size w W8 := bt7.trans (b8.mono bt7.size)
  clear bt7
  clear b8
  go_wp2_with fail
  refine (works_any _).mono ?_
  rintro e W9 ⟨rfl, b9⟩
  replace R_v0 := Lib.hid (R_v0.out.below b9)
  replace R_u1 := Lib.hid (R_u1.out.below b9)
  replace R_u2 := Lib.hid (R_u2.out.below b9)
  replace R_u3 := Lib.hid (R_u3.out.below b9)
  replace R_u4 := Lib.hid (R_u4.out.below b9)
  replace R_u5 := Lib.hid (R_u5.out.below b9)
  have bt9 : Below w.heap.size w W9 := bt8.trans (b9.mono bt8.size)
  clear bt8
  clear b9
  go_wp2_with fail
  go_ret
  exact ⟨rfl, bt9⟩

end Go.Proofs.Ytiioojnoggcnmaa

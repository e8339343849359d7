/-
  What is proved here: the walk of the law FnSetsMorgan, for lists of at most 2^20 elements; no other condition.
-/
import Derived.Test.YtgnjncadecelhaaMeet
import Derived.Test.YtgnjncadecelhaaSame
namespace Go.Proofs.Ytgnjncadecelhaa
open Go.RowKit
set_option linter.unusedVariables false

set_option maxRecDepth 100000 in
set_option maxHeartbeats 2000000 in
theorem walk_FnSetsMorgan (v0 : Value) (x0 : List Int) (v1 : Value) (x1 : List Int) (v2 : Value) (x2 : List Int) (w : World) (h0 : Ro w v0 x0) (f0 : ∀ x ∈ x0, (Lit.int .i64 x).wf = true) (n0 : x0.length ≤ 1048576) (h1 : Ro w v1 x1) (f1 : ∀ x ∈ x1, (Lit.int .i64 x).wf = true) (n1 : x1.length ≤ 1048576) (h2 : Ro w v2 x2) (f2 : ∀ x ∈ x2, (Lit.int .i64 x).wf = true) (n2 : x2.length ≤ 1048576) :
    Calls Try.prog 3 #[v0, v1, v2] w fun e w' => e = .returned (.bool true) ∧ Below w.heap.size w w' := by
  have R_v0 := Lib.hid h0
  clear h0 f0
  have R_v1 := Lib.hid h1
  clear h1 f1
  have R_v2 := Lib.hid h2
  clear h2 f2
  go_enter Try.func3, Try.ntmps3
  go_wp2_with fail
  refine (unite_any _ _ x1 x2 _ R_v1.out R_v2.out (by omega)).mono ?_
  rintro e W1 ⟨u1, rfl, o1, b1⟩
  replace R_v0 := Lib.hid (R_v0.out.below b1)
  replace R_v1 := Lib.hid (R_v1.out.below b1)
  replace R_v2 := Lib.hid (R_v2.out.below b1)
  have bt1 : Below w.heap.size w W1 := b1
  clear b1
  have R_u1 := Lib.hid o1.ro
  clear o1
  go_wp2_with fail
  refine (minus_any _ _ x0 _ _ R_v0.out R_u1.out (by omega) (by have := uni_len (x1 ++ x2); rw [List.length_append] at this; omega)).mono ?_
  rintro e W2 ⟨u2, rfl, o2, b2⟩
  replace R_v0 := Lib.hid (R_v0.out.below b2)
  replace R_v1 := Lib.hid (R_v1.out.below b2)
  replace R_v2 := Lib.hid (R_v2.out.below b2)
  replace R_u1 := Lib.hid (R_u1.out.below b2)
  have bt2 : Below w.heap.size w W2 := bt1.trans (b2.mono bt1.size)
  clear bt1
  clear b2
  have R_u2 := Lib.hid o2.ro
  clear o2
  go_wp2_with fail
  refine (minus_any _ _ x0 x1 _ R_v0.out R_v1.out (by omega) (by omega)).mono ?_
  rintro e W3 ⟨u3, rfl, o3, b3⟩
  replace R_v0 := Lib.hid (R_v0.out.below b3)
  replace R_v1 := Lib.hid (R_v1.out.below b3)
  replace R_v2 := Lib.hid (R_v2.out.below b3)
  replace R_u1 := Lib.hid (R_u1.out.below b3)
  replace R_u2 := Lib.hid (R_u2.out.below b3)
  have bt3 : Below w.heap.size w W3 := bt2.trans (b3.mono bt2.size)
  clear bt2
  clear b3
  have R_u3 := Lib.hid o3.ro
  clear o3
  go_wp2_with fail
  refine (minus_any _ _ x0 x2 _ R_v0.out R_v2.out (by omega) (by omega)).mono ?_
  rintro e W4 ⟨u4, rfl, o4, b4⟩
  replace R_v0 := Lib.hid (R_v0.out.below b4)
  replace R_v1 := Lib.hid (R_v1.out.below b4)
  replace R_v2 := Lib.hid (R_v2.out.below b4)
  replace R_u1 := Lib.hid (R_u1.out.below b4)
  replace R_u2 := Lib.hid (R_u2.out.below b4)
  replace R_u3 := Lib.hid (R_u3.out.below b4)
  have bt4 : Below w.heap.size w W4 := bt3.trans (b4.mono bt3.size)
  clear bt3
  clear b4
  have R_u4 := Lib.hid o4.ro
  clear o4
  go_wp2_with fail
  refine (meet_any _ _ _ _ _ R_u3.out R_u4.out (by have := minus_len x0 x1; omega) (by have := minus_len x0 x2; omega)).mono ?_
  rintro e W5 ⟨u5, rfl, o5, b5⟩
  replace R_v0 := Lib.hid (R_v0.out.below b5)
  replace R_v1 := Lib.hid (R_v1.out.below b5)
  replace R_v2 := Lib.hid (R_v2.out.below b5)
  replace R_u1 := Lib.hid (R_u1.out.below b5)
  replace R_u2 := Lib.hid (R_u2.out.below b5)
  replace R_u3 := Lib.hid (R_u3.out.below b5)
  replace R_u4 := Lib.hid (R_u4.out.below b5)
  have bt5 : Below w.heap.size w W5 := bt4.trans (b5.mono bt4.size)
  clear bt4
  clear b5
  have R_u5 := Lib.hid o5.ro
  clear o5
  go_wp2_with fail
  refine (same_yes _ _ _ _ _ R_u2.out R_u5.out (set_morgan1 _ _ _).symm).mono ?_
  rintro e W6 ⟨rfl, b6⟩
  replace R_v0 := Lib.hid (R_v0.out.below b6)
  replace R_v1 := Lib.hid (R_v1.out.below b6)
  replace R_v2 := Lib.hid (R_v2.out.below b6)
  replace R_u1 := Lib.hid (R_u1.out.below b6)
  replace R_u2 := Lib.hid (R_u2.out.below b6)
  replace R_u3 := Lib.hid (R_u3.out.below b6)
  replace R_u4 := Lib.hid (R_u4.out.below b6)
  replace R_u5 := Lib.hid (R_u5.out.below b6)
  have bt6 : Below w.heap.size w W6 := bt5.trans (b6.mono bt5.size)
  clear bt5
  clear b6
  clear R_u1
  clear R_u2
  clear R_u3
  clear R_u4
  clear R_u5
  go_wp2_with fail
  refine (meet_any _ _ x1 x2 _ R_v1.out R_v2.out (by omega) (by omega)).mono ?_
  rintro e W7 ⟨u6, rfl, o7, b7⟩
  replace R_v0 := Lib.hid (R_v0.out.below b7)
  replace R_v1 := Lib.hid (R_v1.out.below b7)
  replace R_v2 := Lib.hid (R_v2.out.below b7)
  have bt7 : Below w.heap.size w W7 := bt6.trans (b7.mono bt6.size)
  clear bt6
  clear b7
  have R_u6 := Lib.hid o7.ro
  clear o7
  go_wp2_with fail
  refine (minus_any _ _ x0 _ _ R_v0.out R_u6.out (by omega) (by have := meet_len x1 x2; omega)).mono ?_
  rintro e W8 ⟨u7, rfl, o8, b8⟩
  replace R_v0 := Lib.hid (R_v0.out.below b8)
  replace R_v1 := Lib.hid (R_v1.out.below b8)
  replace R_v2 := Lib.hid (R_v2.out.below b8)
  replace R_u6 := Lib.hid (R_u6.out.below b8)
  have bt8 : Below w.heap.size w W8 := bt7.trans (b8.mono bt7.size)
  clear bt7
  clear b8
  have R_u7 := Lib.hid o8.ro
  clear o8
  go_wp2_with fail
  refine (minus_any _ _ x0 x1 _ R_v0.out R_v1.out (by omega) (by omega)).mono ?_
  rintro e W9 ⟨u8, rfl, o9, b9⟩
  replace R_v0 := Lib.hid (R_v0.out.below b9)
  replace R_v1 := Lib.hid (R_v1.out.below b9)
  replace R_v2 := Lib.hid (R_v2.out.below b9)
  replace R_u6 := Lib.hid (R_u6.out.below b9)
  replace R_u7 := Lib.hid (R_u7.out.below b9)
  have bt9 : Below w.heap.size w W9 := bt8.trans (b9.mono bt8.size)
  clear bt8
  clear b9
  have R_u8 := Lib.hid o9.ro
  clear o9
  go_wp2_with fail
  refine (minus_any _ _ x0 x2 _ R_v0.out R_v2.out (by omega) (by omega)).mono ?_
  rintro e W10 ⟨u9, rfl, o10, b10⟩
  replace R_v0 := Lib.hid (R_v0.out.below b10)
  replace R_v1 := Lib.hid (R_v1.out.below b10)
  replace R_v2 := Lib.hid (R_v2.out.below b10)
  replace R_u6 := Lib.hid (R_u6.out.below b10)
  replace R_u7 := Lib.hid (R_u7.out.below b10)
  replace R_u8 := Lib.hid (R_u8.out.below b10)
  have bt10 : Below w.heap.size w W10 := bt9.trans (b10.mono bt9.size)
  clear bt9
  clear b10
  have R_u9 := Lib.hid o10.ro
  clear o10
  go_wp2_with fail
  refine (unite_any _ _ _ _ _ R_u8.out R_u9.out (by have := minus_len x0 x1; have := minus_len x0 x2; omega)).mono ?_
  rintro e W11 ⟨u10, rfl, o11, b11⟩
  replace R_v0 := Lib.hid (R_v0.out.below b11)
  replace R_v1 := Lib.hid (R_v1.out.below b11)
  replace R_v2 := Lib.hid (R_v2.out.below b11)
  replace R_u6 := Lib.hid (R_u6.out.below b11)
  replace R_u7 := Lib.hid (R_u7.out.below b11)
  replace R_u8 := Lib.hid (R_u8.out.below b11)
  replace R_u9 := Lib.hid (R_u9.out.below b11)
  have bt11 : Below w.heap.size w W11 := bt10.trans (b11.mono bt10.size)
  clear bt10
  clear b11
  have R_u10 := Lib.hid o11.ro
  clear o11
  go_wp2_with fail
  refine (same_yes _ _ _ _ _ R_u7.out R_u10.out (set_morgan2 _ _ _).symm).mono ?_
  rintro e W12 ⟨rfl, b12⟩
  replace R_v0 := Lib.hid (R_v0.out.below b12)
  replace R_v1 := Lib.hid (R_v1.out.below b12)
  replace R_v2 := Lib.hid (R_v2.out.below b12)
  replace R_u6 := Lib.hid (R_u6.out.below b12)
  replace R_u7 := Lib.hid (R_u7.out.below b12)
  replace R_u8 := Lib.hid (R_u8.out.below b12)
  replace R_u9 := Lib.hid (R_u9.out.below b12)
  replace R_u10 := Lib.hid (R_u10.out.below b12)
  have bt12 : Below w.heap.size w W12 := bt11.trans (b12.mono bt11.size)
  clear bt11
  clear b12
  go_wp2_with fail
  refine (works_any _).mono ?_
  rintro e W13 ⟨rfl, b13⟩
  replace R_v0 := Lib.hid (R_v0.out.below b13)
  replace R_v1 := Lib.hid (R_v1.out.below b13)
  replace R_v2 := Lib.hid (R_v2.out.below b13)
  replace R_u6 := Lib.hid (R_u6.out.below b13)
  replace R_u7 := Lib.hid (R_u7.out.below b13)
  replace R_u8 := Lib.hid (R_u8.out.below b13)
  replace R_u9 := Lib.hid (R_u9.out.below b13)
  replace R_u10 := Lib.hid (R_u10.out.below b13)
  have bt13 : Below w.heap.size w W13 := bt12.trans (b13.mono bt12.size)
  clear bt12
  clear b13
  go_wp2_with fail
  go_ret
  exact ⟨rfl, bt13⟩

end Go.Proofs.Ytgnjncadecelhaa

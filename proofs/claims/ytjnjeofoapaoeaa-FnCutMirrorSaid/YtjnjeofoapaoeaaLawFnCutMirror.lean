/-
  What is proved here: the walk of the law FnCutMirror; no other condition.
-/
import Derived.Test.YtjnjeofoapaoeaaCut
import Derived.Test.YtjnjeofoapaoeaaCutMore
import Derived.Test.YtjnjeofoapaoeaaMir
import Derived.Test.YtjnjeofoapaoeaaSame
namespace Go.Proofs.Ytjnjeofoapaoeaa
open Go.RowKit
set_option linter.unusedVariables false

set_option maxRecDepth 100000 in
set_option maxHeartbeats 2000000 in
theorem walk_FnCutMirror (v0 : Value) (x0 : List Int) (a1 : Int) (w : World) (h0 : Ro w v0 x0) (f0 : ∀ x ∈ x0, (Lit.int .i64 x).wf = true) (n0 : x0.length * 8 ≤ 140737488351232) (f1 : (Lit.int .i64 a1).wf = true) :
    Calls Try.prog 6 #[v0, .int .i64 a1] w fun e w' => e = .returned (.bool true) ∧ Below w.heap.size w w' := by
  have R_v0 := Lib.hid h0
  clear h0 f0
  clear f1
  have hls : (lds x0).sum ≤ 999 * 17592186044416 := by have h := lds_sum x0 x0.length; rw [List.take_of_length_le (by rw [lds_len]; exact Nat.le_refl _)] at h; omega
  obtain ⟨q, hq⟩ : ∃ q : Nat, a1 % 10 = (q : Int) := ⟨(a1 % 10).toNat, by omega⟩
  have HQ := Lib.hid hq
  clear hq
  have n1 : x0.length ≤ 17592186044416 := by omega
  go_enter Try.func6, Try.ntmps6
  go_wp2_with fail
  refine (mirrored_any _ x0 _ R_v0.out n1).mono ?_
  rintro e W1 ⟨u1, rfl, o1, b1⟩
  replace R_v0 := Lib.hid (R_v0.out.below b1)
  have bt1 : Below w.heap.size w W1 := b1
  clear b1
  have R_u1 := Lib.hid o1.ro
  clear o1
  go_wp2_with fail
  refine (cut_any _ (x0.reverse) (a1) (q) _ R_u1.out (by rw [List.length_reverse]; exact n1) (HQ.out)).mono ?_
  rintro e W2 ⟨c1, rfl, i_c1, s_c1, b2⟩
  replace R_v0 := Lib.hid (R_v0.out.below b2)
  replace R_u1 := Lib.hid (R_u1.out.below b2)
  have bt2 : Below w.heap.size w W2 := bt1.trans (b2.mono bt1.size)
  clear bt1
  clear b2
  have I_c1 := Lib.hid i_c1
  clear i_c1
  go_wp2_with fail
  refine (cut_any _ (x0) (a1) (q) _ R_v0.out (n1) (HQ.out)).mono ?_
  rintro e W3 ⟨c2, rfl, i_c2, s_c2, b3⟩
  replace R_v0 := Lib.hid (R_v0.out.below b3)
  replace R_u1 := Lib.hid (R_u1.out.below b3)
  have bt3 : Below w.heap.size w W3 := bt2.trans (b3.mono bt2.size)
  clear bt2
  clear b3
  have I_c2 := Lib.hid i_c2
  clear i_c2
  obtain rfl : c1 = c2 := by
    have h := I_c1.out
    rw [show lds x0.reverse = (lds x0).reverse by unfold lds; rw [List.map_reverse]] at h
    exact cut_mirror I_c2.out h
  clear s_c1
  go_wp2_with fail
  refine (works_any _).mono ?_
  rintro e W4 ⟨rfl, b4⟩
  replace R_v0 := Lib.hid (R_v0.out.below b4)
  replace R_u1 := Lib.hid (R_u1.out.below b4)
  have bt4 : Below w.heap.size w W4 := bt3.trans (b4.mono bt3.size)
  clear bt3
  clear b4
  go_wp2_with fail
  go_ret
  exact ⟨rfl, bt4⟩

end Go.Proofs.Ytjnjeofoapaoeaa

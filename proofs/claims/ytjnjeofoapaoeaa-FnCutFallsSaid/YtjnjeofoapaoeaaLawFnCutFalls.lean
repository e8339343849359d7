/-
  What is proved here: the walk of the law FnCutFalls; no other condition.
-/
import Derived.Test.YtjnjeofoapaoeaaCut
import Derived.Test.YtjnjeofoapaoeaaCutMore
import Derived.Test.YtjnjeofoapaoeaaWf
import Derived.Test.YtjnjeofoapaoeaaSame
namespace Go.Proofs.Ytjnjeofoapaoeaa
open Go.RowKit
set_option linter.unusedVariables false

set_option maxRecDepth 100000 in
set_option maxHeartbeats 2000000 in
theorem walk_FnCutFalls (v0 : Value) (x0 : List Int) (a1 : Int) (w : World) (h0 : Ro w v0 x0) (f0 : ∀ x ∈ x0, (Lit.int .i64 x).wf = true) (n0 : x0.length * 8 ≤ 140737488351232) (f1 : (Lit.int .i64 a1).wf = true) :
    Calls Try.prog 4 #[v0, .int .i64 a1] w fun e w' => e = .returned (.bool true) ∧ Below w.heap.size w w' := by
  have R_v0 := Lib.hid h0
  clear h0 f0
  clear f1
  have hls : (lds x0).sum ≤ 999 * 17592186044416 := by have h := lds_sum x0 x0.length; rw [List.take_of_length_le (by rw [lds_len]; exact Nat.le_refl _)] at h; omega
  obtain ⟨q, hq⟩ : ∃ q : Nat, (q : Int) = a1 % 9 := ⟨(a1 % 9).toNat, by omega⟩
  have hq9 : q < 9 := by omega
  have HQ := Lib.hid hq
  clear hq
  go_enter Try.func4, Try.ntmps4
  go_wp2_with fail
  refine (specAt_any a1 9 _ (by omega) (by omega)).mono ?_
  rw [← HQ.out]
  rintro e w' ⟨rfl, rfl⟩
  have n1 : x0.length ≤ 17592186044416 := by omega
  go_wp2_with fail
  refine (cut_any _ (x0) ((q : Int) + 1) (q + 1) _ R_v0.out (n1) (by omega)).mono ?_
  rintro e W1 ⟨c1, rfl, i_c1, s_c1, b1⟩
  replace R_v0 := Lib.hid (R_v0.out.below b1)
  have bt1 : Below w.heap.size w W1 := b1
  clear b1
  have I_c1 := Lib.hid i_c1
  clear i_c1
  go_wp2_with fail
  refine (cut_any _ (x0) ((q : Int)) (q) _ R_v0.out (n1) (by omega)).mono ?_
  rintro e W2 ⟨c2, rfl, i_c2, s_c2, b2⟩
  replace R_v0 := Lib.hid (R_v0.out.below b2)
  have bt2 : Below w.heap.size w W2 := bt1.trans (b2.mono bt1.size)
  clear bt1
  clear b2
  have I_c2 := Lib.hid i_c2
  clear i_c2
  have hle : c1 ≤ c2 := cut_falls I_c2.out I_c1.out
  have hle2 : (c1 : Int) ≤ (c2 : Int) := by omega
  go_wp2_with fail
  refine (works_any _).mono ?_
  rintro e W3 ⟨rfl, b3⟩
  replace R_v0 := Lib.hid (R_v0.out.below b3)
  have bt3 : Below w.heap.size w W3 := bt2.trans (b3.mono bt2.size)
  clear bt2
  clear b3
  go_wp2_with fail
  go_ret
  exact ⟨rfl, bt3⟩

end Go.Proofs.Ytjnjeofoapaoeaa

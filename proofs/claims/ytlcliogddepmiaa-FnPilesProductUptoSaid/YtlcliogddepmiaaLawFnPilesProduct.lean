/-
  What is proved here: the walk of the law FnPilesProduct, for lists of at most 2^20 elements; no other condition.
-/
import Derived.Test.YtlcliogddepmiaaWPiles
import Derived.Test.YtlcliogddepmiaaOpp
import Derived.Test.YtlcliogddepmiaaPilesMore
import Derived.Test.YtlcliogddepmiaaSame
namespace Go.Proofs.Ytlcliogddepmiaa
open Go.RowKit
set_option linter.unusedVariables false

set_option maxRecDepth 100000 in
set_option maxHeartbeats 2000000 in
theorem walk_FnPilesProduct (v0 : Value) (x0 : List Int) (w : World) (h0 : Ro w v0 x0) (f0 : ∀ x ∈ x0, (Lit.int .i64 x).wf = true) (n0 : x0.length ≤ 1048576) :
    Calls Try.prog 9 #[v0] w fun e w' => e = .returned (.bool true) ∧ Below w.heap.size w w' := by
  have HWF := Lib.hid f0
  have R_v0 := Lib.hid h0
  clear h0 f0
  obtain ⟨A0, c0, b0, off0, rfl, hnc0, hcm0, -, -⟩ := R_v0.out.shape
  obtain ⟨l0, hl0⟩ : ∃ n, n = x0.length := ⟨_, rfl⟩
  rw [← hl0] at R_v0 n0 hnc0 ⊢
  have HL0 := Lib.hid hl0
  clear hl0
  unfold maxLen at hcm0
  go_enter Try.func9, Try.ntmps9
  go_wp2_with fail
  refine (piles_any _ x0 _ R_v0.out (by rw [← HL0.out]; omega)).mono ?_
  rintro e W1 ⟨u1, rfl, o1, b1⟩
  replace R_v0 := Lib.hid (R_v0.out.below b1)
  have bt1 : Below w.heap.size w W1 := b1
  clear b1
  have R_u1 := Lib.hid o1.ro
  clear o1
  obtain ⟨A_u1, c_u1, b_u1, off_u1, rfl, hnc_u1, hcm_u1, -, -⟩ := R_u1.out.shape
  obtain ⟨m1, h_m1⟩ : ∃ n, n = (piles false x0).length := ⟨_, rfl⟩
  rw [← h_m1] at R_u1 hnc_u1 ⊢
  have b_m1 : m1 ≤ 1048576 := by rw [h_m1]; have := piles_len false x0; rw [← HL0.out] at this; omega
  have H_m1 := Lib.hid h_m1
  clear h_m1
  unfold maxLen at hcm_u1
  go_wp2_with fail
  refine (opposite_any _ x0 _ R_v0.out HWF.out (by rw [← HL0.out]; omega)).mono ?_
  rintro e W2 ⟨u2, rfl, o2, b2⟩
  replace R_v0 := Lib.hid (R_v0.out.below b2)
  replace R_u1 := Lib.hid (R_u1.out.below b2)
  have bt2 : Below w.heap.size w W2 := bt1.trans (b2.mono bt1.size)
  clear bt1
  clear b2
  have R_u2 := Lib.hid o2.ro
  clear o2
  go_wp2_with fail
  refine (weakPiles_any _ (opp x0) _ R_u2.out (by rw [opp_len, ← HL0.out]; omega)).mono ?_
  rintro e W3 ⟨u3, rfl, o3, b3⟩
  replace R_v0 := Lib.hid (R_v0.out.below b3)
  replace R_u1 := Lib.hid (R_u1.out.below b3)
  replace R_u2 := Lib.hid (R_u2.out.below b3)
  have bt3 : Below w.heap.size w W3 := bt2.trans (b3.mono bt2.size)
  clear bt2
  clear b3
  have R_u3 := Lib.hid o3.ro
  clear o3
  obtain ⟨A_u3, c_u3, b_u3, off_u3, rfl, hnc_u3, hcm_u3, -, -⟩ := R_u3.out.shape
  obtain ⟨m3, h_m3⟩ : ∃ n, n = (piles true (opp x0)).length := ⟨_, rfl⟩
  rw [← h_m3] at R_u3 hnc_u3 ⊢
  have b_m3 : m3 ≤ 1048576 := by rw [h_m3]; have := piles_len true (opp x0); rw [opp_len, ← HL0.out] at this; omega
  have H_m3 := Lib.hid h_m3
  clear h_m3
  unfold maxLen at hcm_u3
  have hprod : l0 ≤ m1 * m3 := by rw [HL0.out, H_m1.out, H_m3.out]; exact piles_product x0
  have hpb : m1 * m3 ≤ 1048576 * 1048576 := Nat.mul_le_mul b_m1 b_m3
  have q1 : (l0 : Int) ≤ (m1 : Int) * (m3 : Int) := by rw [← Int.natCast_mul]; omega
  have q2 : (m1 : Int) * (m3 : Int) ≤ 1099511627776 := by rw [← Int.natCast_mul]; omega
  have q3 : (0 : Int) ≤ (m1 : Int) * (m3 : Int) := by rw [← Int.natCast_mul]; omega
  clear hprod hpb
  go_wp2_with fail
  refine (works_any _).mono ?_
  rintro e W4 ⟨rfl, b4⟩
  replace R_v0 := Lib.hid (R_v0.out.below b4)
  replace R_u1 := Lib.hid (R_u1.out.below b4)
  replace R_u2 := Lib.hid (R_u2.out.below b4)
  replace R_u3 := Lib.hid (R_u3.out.below b4)
  have bt4 : Below w.heap.size w W4 := bt3.trans (b4.mono bt3.size)
  clear bt3
  clear b4
  go_wp2_with fail
  go_ret
  exact ⟨rfl, bt4⟩

end Go.Proofs.Ytlcliogddepmiaa

/-
  What is proved here: the walk of the law FnPilesMirror; no other condition.
-/
import Derived.Test.YtlcliogddepmiaaWPiles
import Derived.Test.YtlcliogddepmiaaOpp
import Derived.Test.YtlcliogddepmiaaMir
import Derived.Test.YtlcliogddepmiaaPilesMore
import Derived.Test.YtlcliogddepmiaaSame
namespace Go.Proofs.Ytlcliogddepmiaa
open Go.RowKit
set_option linter.unusedVariables false

set_option maxRecDepth 100000 in
set_option maxHeartbeats 2000000 in
theorem walk_FnPilesMirror (v0 : Value) (x0 : List Int) (w : World) (h0 : Ro w v0 x0) (f0 : ∀ x ∈ x0, (Lit.int .i64 x).wf = true) (n0 : x0.length * 8 ≤ 140737488351232) :
    Calls Try.prog 8 #[v0] w fun e w' => e = .returned (.bool true) ∧ Below w.heap.size w w' := by
  have HWF := Lib.hid f0
  have R_v0 := Lib.hid h0
  clear h0 f0
  have n1 : x0.length ≤ 17592186044416 := by omega
  go_enter Try.func8, Try.ntmps8
  go_wp2_with fail
  refine (mirrored_any _ x0 _ R_v0.out n1).mono ?_
  rintro e W1 ⟨u1, rfl, o1, b1⟩
  replace R_v0 := Lib.hid (R_v0.out.below b1)
  have bt1 : Below w.heap.size w W1 := b1
  clear b1
  have R_u1 := Lib.hid o1.ro
  clear o1
  go_wp2_with fail
  refine (opposite_any _ x0.reverse _ R_u1.out (fun x hx => HWF.out x (List.mem_reverse.1 hx)) (by rw [List.length_reverse]; exact n1)).mono ?_
  rintro e W2 ⟨u2, rfl, o2, b2⟩
  replace R_v0 := Lib.hid (R_v0.out.below b2)
  replace R_u1 := Lib.hid (R_u1.out.below b2)
  have bt2 : Below w.heap.size w W2 := bt1.trans (b2.mono bt1.size)
  clear bt1
  clear b2
  have R_u2 := Lib.hid o2.ro
  clear o2
  clear R_u1
  go_wp2_with fail
  refine (piles_any _ (opp x0.reverse) _ R_u2.out (by rw [opp_len, List.length_reverse]; exact n1)).mono ?_
  rintro e W3 ⟨u3, rfl, o3, b3⟩
  replace R_v0 := Lib.hid (R_v0.out.below b3)
  replace R_u2 := Lib.hid (R_u2.out.below b3)
  have bt3 : Below w.heap.size w W3 := bt2.trans (b3.mono bt2.size)
  clear bt2
  clear b3
  have R_u3 := Lib.hid o3.ro
  clear o3
  obtain ⟨A_u3, c_u3, b_u3, off_u3, rfl, hnc_u3, hcm_u3, -, -⟩ := R_u3.out.shape
  obtain ⟨m3, h_m3⟩ : ∃ n, n = (piles false (opp x0.reverse)).length := ⟨_, rfl⟩
  rw [← h_m3] at R_u3 hnc_u3 ⊢
  have b_m3 : m3 ≤ 17592186044416 := by rw [h_m3]; rw [piles_mirror]; have := piles_len false x0; omega
  have H_m3 := Lib.hid h_m3
  clear h_m3
  unfold maxLen at hcm_u3
  go_wp2_with fail
  refine (piles_any _ x0 _ R_v0.out n1).mono ?_
  rintro e W4 ⟨u4, rfl, o4, b4⟩
  replace R_v0 := Lib.hid (R_v0.out.below b4)
  replace R_u2 := Lib.hid (R_u2.out.below b4)
  replace R_u3 := Lib.hid (R_u3.out.below b4)
  have bt4 : Below w.heap.size w W4 := bt3.trans (b4.mono bt3.size)
  clear bt3
  clear b4
  have R_u4 := Lib.hid o4.ro
  clear o4
  obtain ⟨A_u4, c_u4, b_u4, off_u4, rfl, hnc_u4, hcm_u4, -, -⟩ := R_u4.out.shape
  obtain ⟨m4, h_m4⟩ : ∃ n, n = (piles false x0).length := ⟨_, rfl⟩
  rw [← h_m4] at R_u4 hnc_u4 ⊢
  have b_m4 : m4 ≤ 17592186044416 := by rw [h_m4]; have := piles_len false x0; omega
  have H_m4 := Lib.hid h_m4
  clear h_m4
  unfold maxLen at hcm_u4
  obtain rfl : m4 = m3 := by rw [H_m3.out, H_m4.out, piles_mirror]
  go_wp2_with fail
  refine (weakPiles_any _ (opp x0.reverse) _ R_u2.out (by rw [opp_len, List.length_reverse]; exact n1)).mono ?_
  rintro e W5 ⟨u5, rfl, o5, b5⟩
  replace R_v0 := Lib.hid (R_v0.out.below b5)
  replace R_u2 := Lib.hid (R_u2.out.below b5)
  replace R_u3 := Lib.hid (R_u3.out.below b5)
  replace R_u4 := Lib.hid (R_u4.out.below b5)
  have bt5 : Below w.heap.size w W5 := bt4.trans (b5.mono bt4.size)
  clear bt4
  clear b5
  have R_u5 := Lib.hid o5.ro
  clear o5
  obtain ⟨A_u5, c_u5, b_u5, off_u5, rfl, hnc_u5, hcm_u5, -, -⟩ := R_u5.out.shape
  obtain ⟨m5, h_m5⟩ : ∃ n, n = (piles true (opp x0.reverse)).length := ⟨_, rfl⟩
  rw [← h_m5] at R_u5 hnc_u5 ⊢
  have b_m5 : m5 ≤ 17592186044416 := by rw [h_m5]; rw [piles_mirror]; have := piles_len true x0; omega
  have H_m5 := Lib.hid h_m5
  clear h_m5
  unfold maxLen at hcm_u5
  go_wp2_with fail
  refine (weakPiles_any _ x0 _ R_v0.out n1).mono ?_
  rintro e W6 ⟨u6, rfl, o6, b6⟩
  replace R_v0 := Lib.hid (R_v0.out.below b6)
  replace R_u2 := Lib.hid (R_u2.out.below b6)
  replace R_u3 := Lib.hid (R_u3.out.below b6)
  replace R_u4 := Lib.hid (R_u4.out.below b6)
  replace R_u5 := Lib.hid (R_u5.out.below b6)
  have bt6 : Below w.heap.size w W6 := bt5.trans (b6.mono bt5.size)
  clear bt5
  clear b6
  have R_u6 := Lib.hid o6.ro
  clear o6
  obtain ⟨A_u6, c_u6, b_u6, off_u6, rfl, hnc_u6, hcm_u6, -, -⟩ := R_u6.out.shape
  obtain ⟨m6, h_m6⟩ : ∃ n, n = (piles true x0).length := ⟨_, rfl⟩
  rw [← h_m6] at R_u6 hnc_u6 ⊢
  have b_m6 : m6 ≤ 17592186044416 := by rw [h_m6]; have := piles_len true x0; omega
  have H_m6 := Lib.hid h_m6
  clear h_m6
  unfold maxLen at hcm_u6
  obtain rfl : m6 = m5 := by rw [H_m5.out, H_m6.out, piles_mirror]
  go_wp2_with fail
  refine (works_any _).mono ?_
  rintro e W7 ⟨rfl, b7⟩
  replace R_v0 := Lib.hid (R_v0.out.below b7)
  replace R_u2 := Lib.hid (R_u2.out.below b7)
  replace R_u3 := Lib.hid (R_u3.out.below b7)
  replace R_u4 := Lib.hid (R_u4.out.below b7)
  replace R_u5 := Lib.hid (R_u5.out.below b7)
  replace R_u6 := Lib.hid (R_u6.out.below b7)
  have bt7 : Below w.heap.size w W7 := bt6.trans (b7.mono bt6.size)
  clear bt6
  clear b7
  go_wp2_with fail
  go_ret
  exact ⟨rfl, bt7⟩

end Go.Proofs.Ytlcliogddepmiaa

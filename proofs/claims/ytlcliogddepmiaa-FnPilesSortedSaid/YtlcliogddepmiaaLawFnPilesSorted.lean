/-
  What is proved here: the walk of the law FnPilesSorted; no other condition.
-/
import Derived.Test.YtlcliogddepmiaaWPiles
import Derived.Test.YtlcliogddepmiaaUnite
import Derived.Test.YtlcliogddepmiaaPilesMore
import Derived.Test.YtlcliogddepmiaaSame
namespace Go.Proofs.Ytlcliogddepmiaa
open Go.RowKit
set_option linter.unusedVariables false

set_option maxRecDepth 100000 in
set_option maxHeartbeats 2000000 in
theorem walk_FnPilesSorted (v0 : Value) (x0 : List Int) (w : World) (h0 : Ro w v0 x0) (f0 : ∀ x ∈ x0, (Lit.int .i64 x).wf = true) (n0 : x0.length * 8 ≤ 140737488351232) :
    Calls Try.prog 11 #[v0] w fun e w' => e = .returned (.bool true) ∧ Below w.heap.size w w' := by
  have R_v0 := Lib.hid h0
  clear h0 f0
  obtain ⟨A0, c0, b0, off0, rfl, hnc0, hcm0, -, -⟩ := R_v0.out.shape
  obtain ⟨l0, hl0⟩ : ∃ n, n = x0.length := ⟨_, rfl⟩
  rw [← hl0] at R_v0 n0 hnc0 ⊢
  have HL0 := Lib.hid hl0
  clear hl0
  unfold maxLen at hcm0
  go_enter Try.func11, Try.ntmps11
  go_wp2_with fail
  refine (ascending_any _ x0 _ R_v0.out (by rw [← HL0.out]; omega)).mono ?_
  rintro e W1 ⟨u1, rfl, o1, b1⟩
  replace R_v0 := Lib.hid (R_v0.out.below b1)
  have bt1 : Below w.heap.size w W1 := b1
  clear b1
  have R_u1 := Lib.hid o1.ro
  clear o1
  obtain ⟨A_u1, c_u1, b_u1, off_u1, rfl, hnc_u1, hcm_u1, -, -⟩ := R_u1.out.shape
  obtain ⟨m1, h_m1⟩ : ∃ n, n = (asc x0).length := ⟨_, rfl⟩
  rw [← h_m1] at R_u1 hnc_u1 ⊢
  have b_m1 : m1 ≤ 17592186044416 := by rw [h_m1]; rw [asc_len, ← HL0.out]; omega
  have H_m1 := Lib.hid h_m1
  clear h_m1
  unfold maxLen at hcm_u1
  obtain rfl : m1 = l0 := by have h := H_m1.out; rw [asc_len, ← HL0.out] at h; exact h
  go_wp2_with fail
  refine (piles_any _ (asc x0) _ R_u1.out (by rw [asc_len, ← HL0.out]; omega)).mono ?_
  rintro e W2 ⟨u2, rfl, o2, b2⟩
  replace R_v0 := Lib.hid (R_v0.out.below b2)
  replace R_u1 := Lib.hid (R_u1.out.below b2)
  have bt2 : Below w.heap.size w W2 := bt1.trans (b2.mono bt1.size)
  clear bt1
  clear b2
  have R_u2 := Lib.hid o2.ro
  clear o2
  go_wp2_with fail
  refine (unite_any _ (.slice none 0 0) x0 [] _ R_v0.out (ro_nil _) (by simp; rw [← HL0.out]; omega)).mono ?_
  rintro e W3 ⟨u3, rfl, o3, b3⟩
  replace R_v0 := Lib.hid (R_v0.out.below b3)
  replace R_u1 := Lib.hid (R_u1.out.below b3)
  replace R_u2 := Lib.hid (R_u2.out.below b3)
  have bt3 : Below w.heap.size w W3 := bt2.trans (b3.mono bt2.size)
  clear bt2
  clear b3
  have R_u3 := Lib.hid o3.ro
  clear o3
  go_wp2_with fail
  refine (same_yes _ _ _ _ _ R_u2.out R_u3.out (by rw [(piles_asc x0).1, List.append_nil])).mono ?_
  rintro e W4 ⟨rfl, b4⟩
  replace R_v0 := Lib.hid (R_v0.out.below b4)
  replace R_u1 := Lib.hid (R_u1.out.below b4)
  replace R_u2 := Lib.hid (R_u2.out.below b4)
  replace R_u3 := Lib.hid (R_u3.out.below b4)
  have bt4 : Below w.heap.size w W4 := bt3.trans (b4.mono bt3.size)
  clear bt3
  clear b4
  go_wp2_with fail
  refine (weakPiles_any _ (asc x0) _ R_u1.out (by rw [asc_len, ← HL0.out]; omega)).mono ?_
  rintro e W5 ⟨u4, rfl, o5, b5⟩
  replace R_v0 := Lib.hid (R_v0.out.below b5)
  replace R_u1 := Lib.hid (R_u1.out.below b5)
  replace R_u2 := Lib.hid (R_u2.out.below b5)
  replace R_u3 := Lib.hid (R_u3.out.below b5)
  have bt5 : Below w.heap.size w W5 := bt4.trans (b5.mono bt4.size)
  clear bt4
  clear b5
  have R_u4 := Lib.hid o5.ro
  clear o5
  go_wp2_with fail
  refine (same_yes _ _ _ _ _ R_u4.out R_u1.out (piles_asc x0).2).mono ?_
  rintro e W6 ⟨rfl, b6⟩
  replace R_v0 := Lib.hid (R_v0.out.below b6)
  replace R_u1 := Lib.hid (R_u1.out.below b6)
  replace R_u2 := Lib.hid (R_u2.out.below b6)
  replace R_u3 := Lib.hid (R_u3.out.below b6)
  replace R_u4 := Lib.hid (R_u4.out.below b6)
  have bt6 : Below w.heap.size w W6 := bt5.trans (b6.mono bt5.size)
  clear bt5
  clear b6
  go_wp2_with fail
  refine (works_any _).mono ?_
  rintro e W7 ⟨rfl, b7⟩
  replace R_v0 := Lib.hid (R_v0.out.below b7)
  replace R_u1 := Lib.hid (R_u1.out.below b7)
  replace R_u2 := Lib.hid (R_u2.out.below b7)
  replace R_u3 := Lib.hid (R_u3.out.below b7)
  replace R_u4 := Lib.hid (R_u4.out.below b7)
  have bt7 : Below w.heap.size w W7 := bt6.trans (b7.mono bt6.size)
  clear bt6
  clear b7
  go_wp2_with fail
  go_ret
  exact ⟨rfl, bt7⟩

end Go.Proofs.Ytlcliogddepmiaa

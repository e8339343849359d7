/-
  What is proved here: the walk of the exact law on Cut; no condition.
-/
import Derived.Test.YtbgimajgbgfomaaSpecCut
namespace Go.Proofs.Ytbgimajgbgfomaa
open Go.RowKit
set_option linter.unusedVariables false

set_option maxHeartbeats 1000000 in
theorem walk_FnExactCut (v0 : Value) (x0 : List Int) (a1 : Int) (w : World) (h0 : Ro w v0 x0) (f0 : ∀ x ∈ x0, (Lit.int .i64 x).wf = true) (n0 : x0.length * 8 ≤ 140737488351232) (wf1 : (Lit.int .i64 a1).wf = true) :
    Calls Try.prog 12 #[v0, .int .i64 a1] w fun e w' => e = .returned (.bool true) ∧ Below w.heap.size w w' := by
  have r0 := Lib.hid h0
  obtain ⟨A0, c0, b0, off0, rfl, hnc0, hcm0, ha0, hcell0⟩ := h0
  obtain ⟨l0, hl0⟩ : ∃ n, n = x0.length := ⟨_, rfl⟩
  rw [← hl0] at r0 n0 ⊢
  have HL0 := Lib.hid hl0
  clear f0 ha0 hcell0 hnc0 hl0 wf1
  unfold maxLen at hcm0
  by_cases big0 : 1048576 < (l0 : Int)
  · go_enter Try.func12, Try.ntmps12
    go_wp2_with fail
    go_ret
    exact ⟨rfl, Below.refl _ _⟩
  have xl0 : x0.length ≤ 1048576 := by rw [← HL0.out]; omega
  obtain ⟨q, hq⟩ := Int.eq_ofNat_of_zero_le (show 0 ≤ a1 % 10 by omega)
  have HQ := Lib.hid hq
  clear hq
  go_enter Try.func12, Try.ntmps12
  go_wp2_with fail
  refine (toIntS_any _ x0 _ r0.out (by omega)).mono ?_
  rintro e W1 ⟨s0v, rfl, o1, b1⟩
  go_wp2_with fail
  refine (specCut_any _ x0 _ q _ o1.ro (by omega) HQ.out).mono ?_
  rintro e W2 ⟨I, rfl, c1, cs1, b2⟩
  have HC1 := Lib.hid c1
  clear c1 cs1
  have bt2 : Below w.heap.size w W2 := b1.trans (b2.mono b1.size)
  go_wp2_with fail
  refine (toIntS_any _ x0 _ (r0.out.below bt2) (by omega)).mono ?_
  rintro e W3 ⟨x0v, rfl, o3, b3⟩
  have bt3 : Below w.heap.size w W3 := bt2.trans (b3.mono bt2.size)
  go_wp2_with fail
  refine (cut_any _ x0 _ q _ o3.ro (by omega) HQ.out).mono ?_
  rintro e W4 ⟨I2, rfl, c2, cs2, b4⟩
  obtain rfl : I2 = I := cut_unique c2 HC1.out
  clear c2 cs2
  have bt4 : Below w.heap.size w W4 := bt3.trans (b4.mono bt3.size)
  go_wp2_with fail
  refine (toIntS_any _ x0 _ (r0.out.below bt4) (by omega)).mono ?_
  rintro e W5 ⟨t0v, rfl, o5, b5⟩
  have bt5 : Below w.heap.size w W5 := bt4.trans (b5.mono bt4.size)
  go_wp2_with fail
  refine (eqIntS_any _ _ _ _ ((o3.below b4).below b5).ro o5.ro).mono ?_
  rintro e W6 ⟨rfl, b6⟩
  go_wp2_with fail
  go_ret
  exact ⟨rfl, bt5.trans (b6.mono bt5.size)⟩

end Go.Proofs.Ytbgimajgbgfomaa

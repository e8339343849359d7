/-
  What is proved here: the walk of the law FnInversionsJoined, for lists of at most 2^20 elements; no other condition.
-/
import Derived.Test.YtgnjncadecelhaaBag
import Derived.Test.YtgnjncadecelhaaOrders
import Derived.Test.YtgnjncadecelhaaBagInv
import Derived.Test.YtgnjncadecelhaaInv
import Derived.Test.YtgnjncadecelhaaOpp
import Derived.Test.YtgnjncadecelhaaJoin
import Derived.Test.YtgnjncadecelhaaSame
namespace Go.Proofs.Ytgnjncadecelhaa
open Go.RowKit
set_option linter.unusedVariables false

set_option maxRecDepth 100000 in
set_option maxHeartbeats 2000000 in
theorem walk_FnInversionsJoined (v0 : Value) (x0 : List Int) (v1 : Value) (x1 : List Int) (w : World) (h0 : Ro w v0 x0) (f0 : ∀ x ∈ x0, (Lit.int .i64 x).wf = true) (n0 : x0.length ≤ 1048576) (h1 : Ro w v1 x1) (f1 : ∀ x ∈ x1, (Lit.int .i64 x).wf = true) (n1 : x1.length ≤ 1048576) :
    Calls Try.prog 10 #[v0, v1] w fun e w' => e = .returned (.bool true) ∧ Below w.heap.size w w' := by
  have HWF0 := Lib.hid f0
  have HWF1 := Lib.hid f1
  have R_v0 := Lib.hid h0
  clear h0 f0
  have R_v1 := Lib.hid h1
  clear h1 f1
  obtain ⟨A0, c0, b0, off0, rfl, hnc0, hcm0, -, -⟩ := R_v0.out.shape
  obtain ⟨l0, hl0⟩ : ∃ n, n = x0.length := ⟨_, rfl⟩
  rw [← hl0] at R_v0 n0 hnc0 ⊢
  have HL0 := Lib.hid hl0
  clear hl0
  unfold maxLen at hcm0
  obtain ⟨A1, c1, b1, off1, rfl, hnc1, hcm1, -, -⟩ := R_v1.out.shape
  obtain ⟨l1, hl1⟩ : ∃ n, n = x1.length := ⟨_, rfl⟩
  rw [← hl1] at R_v1 n1 hnc1 ⊢
  have HL1 := Lib.hid hl1
  clear hl1
  unfold maxLen at hcm1
  obtain ⟨i0, hi0⟩ : ∃ i, i = inv x0 := ⟨_, rfl⟩
  obtain ⟨i1, hi1⟩ : ∃ i, i = inv x1 := ⟨_, rfl⟩
  have hb0 : i0 ≤ 1099511627776 := by rw [hi0]; exact inv_bound x0 1048576 (by rw [← HL0.out]; exact n0)
  have hb1 : i1 ≤ 1099511627776 := by rw [hi1]; exact inv_bound x1 1048576 (by rw [← HL1.out]; exact n1)
  have HI0 := Lib.hid hi0
  have HI1 := Lib.hid hi1
  clear hi0 hi1
  go_enter Try.func10, Try.ntmps10
  go_wp2_with fail
  refine (opposite_any _ x0 _ R_v0.out HWF0.out (by rw [← HL0.out]; omega)).mono ?_
  rintro e W1 ⟨u1, rfl, o1, b1⟩
  replace R_v0 := Lib.hid (R_v0.out.below b1)
  replace R_v1 := Lib.hid (R_v1.out.below b1)
  have bt1 : Below w.heap.size w W1 := b1
  clear b1
  have R_u1 := Lib.hid o1.ro
  clear o1
  go_wp2_with fail
  refine (opposite_any _ x1 _ R_v1.out HWF1.out (by rw [← HL1.out]; omega)).mono ?_
  rintro e W2 ⟨u2, rfl, o2, b2⟩
  replace R_v0 := Lib.hid (R_v0.out.below b2)
  replace R_v1 := Lib.hid (R_v1.out.below b2)
  replace R_u1 := Lib.hid (R_u1.out.below b2)
  have bt2 : Below w.heap.size w W2 := bt1.trans (b2.mono bt1.size)
  clear bt1
  clear b2
  have R_u2 := Lib.hid o2.ro
  clear o2
  go_wp2_with fail
  refine (orders_any 2 _ (opp x1) _ R_u2.out (by rw [opp_len, ← HL1.out]; omega)).mono ?_
  rintro e W3 ⟨u3, rfl, o3, b3⟩
  replace R_v0 := Lib.hid (R_v0.out.below b3)
  replace R_v1 := Lib.hid (R_v1.out.below b3)
  replace R_u1 := Lib.hid (R_u1.out.below b3)
  replace R_u2 := Lib.hid (R_u2.out.below b3)
  have bt3 : Below w.heap.size w W3 := bt2.trans (b3.mono bt2.size)
  clear bt2
  clear b3
  have R_u3 := Lib.hid o3.ros2
  clear o3
  go_wp2_with fail
  refine (bag_any _ _ (opp x0) _ _ R_u1.out R_u3.out (by rw [opp_len, List.length_map, opp_len, ← HL0.out, ← HL1.out]; omega)).mono ?_
  rw [over_bag x0 x1]
  rintro e W4 ⟨t, bg, rfl, o4, p4, -, b4⟩
  replace R_v0 := Lib.hid (R_v0.out.below b4)
  replace R_v1 := Lib.hid (R_v1.out.below b4)
  replace R_u1 := Lib.hid (R_u1.out.below b4)
  replace R_u2 := Lib.hid (R_u2.out.below b4)
  replace R_u3 := Lib.hid (R_u3.out.below b4)
  have bt4 : Below w.heap.size w W4 := bt3.trans (b4.mono bt3.size)
  clear bt3
  clear b4
  have R_t : Hid (Ro W4 t (over x0 x1)) := o4.ro
  have R_bg : Hid (Ro W4 bg (asc (opp x0))) := p4.ro
  clear o4 p4
  obtain ⟨A_t, c_t, b_t, off_t, rfl, hnc_t, hcm_t, -, -⟩ := R_t.out.shape
  obtain ⟨m1, h_m1⟩ : ∃ n, n = (over x0 x1).length := ⟨_, rfl⟩
  rw [← h_m1] at R_t hnc_t ⊢
  have b_m1 : m1 ≤ 1048576 := by rw [h_m1]; rw [over_len, ← HL1.out]; exact n1
  have H_m1 := Lib.hid h_m1
  clear h_m1
  unfold maxLen at hcm_t
  obtain rfl : m1 = l1 := by have h := H_m1.out; rw [over_len, ← HL1.out] at h; exact h
  clear R_u1
  clear R_u2
  clear R_u3
  clear R_bg
  go_wp2_with fail
  refine (inversions_any _ x0 _ R_v0.out (by rw [← HL0.out]; omega)).mono ?_
  rw [← HI0.out]
  rintro e W5 ⟨rfl, b5⟩
  replace R_v0 := Lib.hid (R_v0.out.below b5)
  replace R_v1 := Lib.hid (R_v1.out.below b5)
  replace R_t := Lib.hid (R_t.out.below b5)
  have bt5 : Below w.heap.size w W5 := bt4.trans (b5.mono bt4.size)
  clear bt4
  clear b5
  go_wp2_with fail
  refine (inversions_any _ x1 _ R_v1.out (by rw [← HL1.out]; omega)).mono ?_
  rw [← HI1.out]
  rintro e W6 ⟨rfl, b6⟩
  replace R_v0 := Lib.hid (R_v0.out.below b6)
  replace R_v1 := Lib.hid (R_v1.out.below b6)
  replace R_t := Lib.hid (R_t.out.below b6)
  have bt6 : Below w.heap.size w W6 := bt5.trans (b6.mono bt5.size)
  clear bt5
  clear b6
  clear H_m1 b_m1
  go_wp2_with fail
  go_loopg [7, 26] m1 (fun kx s7 s26 wr => ∃ (k : Nat) (s : Int), k ≤ m1 ∧ s7 = .int .i64 s ∧ s26 = .int .i64 k ∧ m1 - k ≤ kx ∧ W6 = wr ∧ 0 ≤ s ∧ s ≤ 3298534883328 ∧ Hid (s = (i0 : Int) + (i1 : Int) + ((over x0 x1).take k).sum))
  case atStart => exact ⟨0, (i0 : Int) + (i1 : Int), Nat.zero_le _, rfl, rfl, by omega, rfl, by omega, by omega, by show (i0 : Int) + (i1 : Int) = _; simp⟩
  case round =>
    obtain ⟨k, s, hk, rfl, rfl, hkk, rfl, hs0, hs1, HS⟩ := hrel
    by_cases hlt : k < m1
    · obtain ⟨y, hy⟩ : ∃ y, (over x0 x1)[k]? = some y := ⟨_, List.getElem?_eq_getElem (by rw [over_len, ← HL1.out]; exact hlt)⟩
      obtain ⟨b1, o1, rfl, hc1, -⟩ := R_t.out.at hy
      have hst := sum_take hy
      have hbd := over_bounds x0 x1 (k + 1)
      have hbd0 := over_bounds x0 x1 k
      have hmul : (x0.length : Int) * (x1.length : Int) ≤ 1099511627776 := by
        have h1 : (x0.length : Int) ≤ 1048576 := by rw [← HL0.out]; omega
        have h2 : (x1.length : Int) ≤ 1048576 := by rw [← HL1.out]; omega
        have h3 := Int.mul_le_mul h1 h2 (by omega) (by omega)
        omega
      have hs := HS.out
      have q1 : 0 ≤ s + y := by omega
      have q2 : s + y ≤ 3298534883328 := by omega
      have HN : Hid (s + y = (i0 : Int) + (i1 : Int) + ((over x0 x1).take (k + 1)).sum) := by show s + y = _; omega
      clear hy hst hbd hbd0 hmul hs
      go_wp2_with fail
      go_roundg (m1 - (k + 1))
      case measure => omega
      case rel => exact ⟨k + 1, s + y, by omega, rfl, by go_num, by omega, rfl, q1, q2, HN.out⟩
    · have HF : Hid (((inv (x0 ++ x1) : Nat) : Int) = s) := by
        show ((inv (x0 ++ x1) : Nat) : Int) = s
        rw [HS.out, List.take_of_length_le (by rw [over_len, ← HL1.out]; omega), inv_append, HI0.out, HI1.out]
      clear R_t
      go_wp2_with fail
      refine (joined_any _ _ x0 x1 _ R_v0.out R_v1.out (by rw [← HL0.out, ← HL1.out]; omega)).mono ?_
      rintro e W7 ⟨u4, rfl, o7, b7⟩
      replace R_v0 := Lib.hid (R_v0.out.below b7)
      replace R_v1 := Lib.hid (R_v1.out.below b7)
      have bt7 : Below w.heap.size w W7 := bt6.trans (b7.mono bt6.size)
      clear bt6
      clear b7
      have R_u4 := Lib.hid o7.ro
      clear o7
      go_wp2_with fail
      refine (inversions_any _ (x0 ++ x1) _ R_u4.out (by rw [List.length_append, ← HL0.out, ← HL1.out]; omega)).mono ?_
      rw [HF.out]
      rintro e W8 ⟨rfl, b8⟩
      replace R_v0 := Lib.hid (R_v0.out.below b8)
      replace R_v1 := Lib.hid (R_v1.out.below b8)
      replace R_u4 := Lib.hid (R_u4.out.below b8)
      have bt8 : Below w.heap.size w W8 := bt7.trans (b8.mono bt7.size)
      clear bt7
      clear b8
      go_wp2_with fail
      refine (works_any _).mono ?_
      rintro e W9 ⟨rfl, b9⟩
      replace R_v0 := Lib.hid (R_v0.out.below b9)
      replace R_v1 := Lib.hid (R_v1.out.below b9)
      replace R_u4 := Lib.hid (R_u4.out.below b9)
      have bt9 : Below w.heap.size w W9 := bt8.trans (b9.mono bt8.size)
      clear bt8
      clear b9
      go_wp2_with fail
      go_ret
      exact ⟨rfl, bt9⟩

end Go.Proofs.Ytgnjncadecelhaa

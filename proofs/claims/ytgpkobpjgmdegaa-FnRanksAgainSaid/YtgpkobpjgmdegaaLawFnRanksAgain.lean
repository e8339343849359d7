/-
  What is proved here: the walk of the law FnRanksAgain; no other condition.
-/
import Derived.Test.YtgpkobpjgmdegaaRanks
import Derived.Test.YtgpkobpjgmdegaaOpp
import Derived.Test.YtgpkobpjgmdegaaSame
namespace Go.Proofs.Ytgpkobpjgmdegaa
open Go.RowKit
set_option linter.unusedVariables false

set_option maxRecDepth 100000 in
set_option maxHeartbeats 2000000 in
theorem walk_FnRanksAgain (v0 : Value) (x0 : List Int) (w : World) (h0 : Ro w v0 x0) (f0 : ∀ x ∈ x0, (Lit.int .i64 x).wf = true) (n0 : x0.length * 8 ≤ 140737488351232) :
    Calls Try.prog 13 #[v0] w fun e w' => e = .returned (.bool true) ∧ Below w.heap.size w w' := by
  have HWF := Lib.hid f0
  have R_v0 := Lib.hid h0
  clear h0 f0
  obtain ⟨A0, c0, b0, off0, rfl, hnc0, hcm0, _, _⟩ := R_v0.out.shape
  obtain ⟨l0, hl0⟩ : ∃ n, n = x0.length := ⟨_, rfl⟩
  rw [← hl0] at R_v0 n0 hnc0 ⊢
  have HL0 := Lib.hid hl0
  clear hl0
  unfold maxLen at hcm0
  go_enter Try.func13, Try.ntmps13
  go_wp2_with fail
  refine (ranks_any _ x0 _ R_v0.out (by rw [← HL0.out]; omega)).mono ?_
  rintro e W1 ⟨u1, rfl, o1, b1⟩
  replace R_v0 := Lib.hid (R_v0.out.below b1)
  have bt1 : Below w.heap.size w W1 := b1
  clear b1
  have R_u1 := Lib.hid o1.ro
  clear o1
  obtain ⟨A_u1, c_u1, b_u1, off_u1, rfl, hnc_u1, hcm_u1, _, _⟩ := R_u1.out.shape
  obtain ⟨m1, h_m1⟩ : ∃ n, n = (ranks x0).length := ⟨_, rfl⟩
  rw [← h_m1] at R_u1 hnc_u1 ⊢
  have b_m1 : m1 ≤ l0 := by rw [h_m1]; rw [ranks_len, ← HL0.out]; exact Nat.le_refl _
  have H_m1 := Lib.hid h_m1
  clear h_m1
  unfold maxLen at hcm_u1
  obtain rfl : m1 = l0 := by have h := H_m1.out; rw [ranks_len, ← HL0.out] at h; exact h
  go_wp2_with fail
  refine (unite_any _ (.slice none 0 0) x0 [] _ R_v0.out (ro_nil _) (by simp; rw [← HL0.out]; omega)).mono ?_
  rintro e W2 ⟨u2, rfl, o2, b2⟩
  replace R_v0 := Lib.hid (R_v0.out.below b2)
  replace R_u1 := Lib.hid (R_u1.out.below b2)
  have bt2 : Below w.heap.size w W2 := bt1.trans (b2.mono bt1.size)
  clear bt1
  clear b2
  have R_u2 := Lib.hid o2.ro
  clear o2
  obtain ⟨A_u2, c_u2, b_u2, off_u2, rfl, hnc_u2, hcm_u2, _, _⟩ := R_u2.out.shape
  obtain ⟨m2, h_m2⟩ : ∃ n, n = (uni (x0 ++ [])).length := ⟨_, rfl⟩
  rw [← h_m2] at R_u2 hnc_u2 ⊢
  have b_m2 : m2 ≤ m1 := by rw [h_m2]; rw [List.append_nil, HL0.out]; exact uni_len x0
  have H_m2 := Lib.hid h_m2
  clear h_m2
  unfold maxLen at hcm_u2
  go_wp2_with fail
  refine (opposite_any _ x0 _ R_v0.out HWF.out (by rw [← HL0.out]; omega)).mono ?_
  rintro e W3 ⟨u3, rfl, o3, b3⟩
  replace R_v0 := Lib.hid (R_v0.out.below b3)
  replace R_u1 := Lib.hid (R_u1.out.below b3)
  replace R_u2 := Lib.hid (R_u2.out.below b3)
  have bt3 : Below w.heap.size w W3 := bt2.trans (b3.mono bt2.size)
  clear bt2
  clear b3
  have R_u3 := Lib.hid o3.ro
  clear o3
  go_wp2_with fail
  refine (ranks_any _ (opp x0) _ R_u3.out (by rw [opp_len, ← HL0.out]; omega)).mono ?_
  rintro e W4 ⟨u4, rfl, o4, b4⟩
  replace R_v0 := Lib.hid (R_v0.out.below b4)
  replace R_u1 := Lib.hid (R_u1.out.below b4)
  replace R_u2 := Lib.hid (R_u2.out.below b4)
  replace R_u3 := Lib.hid (R_u3.out.below b4)
  have bt4 : Below w.heap.size w W4 := bt3.trans (b4.mono bt3.size)
  clear bt3
  clear b4
  have R_u4 := Lib.hid o4.ro
  clear o4
  obtain ⟨A_u4, c_u4, b_u4, off_u4, rfl, hnc_u4, hcm_u4, _, _⟩ := R_u4.out.shape
  obtain ⟨m4, h_m4⟩ : ∃ n, n = (ranks (opp x0)).length := ⟨_, rfl⟩
  rw [← h_m4] at R_u4 hnc_u4 ⊢
  have b_m4 : m4 ≤ m1 := by rw [h_m4]; rw [ranks_len, opp_len, ← HL0.out]; exact Nat.le_refl _
  have H_m4 := Lib.hid h_m4
  clear h_m4
  unfold maxLen at hcm_u4
  obtain rfl : m4 = m1 := by have h := H_m4.out; rw [ranks_len, opp_len, ← HL0.out] at h; exact h
  clear R_u2
  clear R_u3
  clear H_m1 H_m4 b_m1 b_m4
  go_wp2_with fail
  go_loopg [29] m4 (fun kx s29 wr => ∃ k : Nat, k ≤ m4 ∧ s29 = .int .i64 k ∧ m4 - k ≤ kx ∧ Below W4.heap.size W4 wr)
  case atStart => exact ⟨0, Nat.zero_le _, rfl, by omega, Below.refl _ _⟩
  case round =>
    obtain ⟨k, hk, rfl, hkk, hb⟩ := hrel
    by_cases hlt : k < m4
    · obtain ⟨x, hx⟩ := get_some HL0.out hlt
      obtain ⟨b1, o1, rfl, hc1, _⟩ := (R_u1.out.below hb).at (ranks_get x0 k x hx)
      obtain ⟨b4, o4, rfl, hc4, _⟩ := (R_u4.out.below hb).at (ranks_get (opp x0) k _ (opp_get x0 k x hx))
      have hsum := rank_opp (List.mem_of_getElem? hx)
      have hm2 := H_m2.out
      rw [List.append_nil] at hm2
      rw [← hm2] at hsum
      obtain ⟨r, hr⟩ : ∃ r, r = rank x0 x := ⟨_, rfl⟩
      obtain ⟨s, hs⟩ : ∃ s, s = rank (opp x0) (-1 - x) := ⟨_, rfl⟩
      rw [← hr] at hc1 hsum
      rw [← hs] at hc4 hsum
      have z1 : (0 : Int) ≤ (k : Int) := by omega
      have z2 : (k : Int) < (m4 : Int) := by omega
      have y1 : IntKind.i64.wrap ((r : Int) + (s : Int)) = (r : Int) + (s : Int) := IntWalk.i64_in _ (by omega)
      have y2 : IntKind.i64.wrap ((m2 : Int) - 1) = (m2 : Int) - 1 := IntWalk.i64_in _ (by omega)
      have y3 : ((r : Int) + (s : Int) != (m2 : Int) - 1) = false := by simp; omega
      clear hx hr hs hm2 hsum
      go_wp2_with fail
      go_quiet (fail)
      clear y1 y2
      go_wp2_with fail
      go_roundg (m4 - (k + 1))
      case measure => omega
      case rel => exact ⟨k + 1, by omega, by go_num, by omega, below_drawn hb _⟩
    · replace R_u1 := Lib.hid (R_u1.out.below hb)
      replace bt4 : Below w.heap.size w wr := bt4.trans (hb.mono bt4.size)
      clear R_v0 R_u4 hb
      go_wp2_with fail
      refine (ranks_any _ (ranks x0) _ R_u1.out (by rw [ranks_len, ← HL0.out]; omega)).mono ?_
      rintro e W5 ⟨u5, rfl, o5, b5⟩
      replace R_u1 := Lib.hid (R_u1.out.below b5)
      have bt5 : Below w.heap.size w W5 := bt4.trans (b5.mono bt4.size)
      clear bt4
      clear b5
      have R_u5 := Lib.hid o5.ro
      clear o5
      go_wp2_with fail
      refine (same_yes _ _ _ _ _ R_u5.out R_u1.out (ranks_ranks _)).mono ?_
      rintro e W6 ⟨rfl, b6⟩
      replace R_u1 := Lib.hid (R_u1.out.below b6)
      replace R_u5 := Lib.hid (R_u5.out.below b6)
      have bt6 : Below w.heap.size w W6 := bt5.trans (b6.mono bt5.size)
      clear bt5
      clear b6
      go_wp2_with fail
      refine (works_any _).mono ?_
      rintro e W7 ⟨rfl, b7⟩
      replace R_u1 := Lib.hid (R_u1.out.below b7)
      replace R_u5 := Lib.hid (R_u5.out.below b7)
      have bt7 : Below w.heap.size w W7 := bt6.trans (b7.mono bt6.size)
      clear bt6
      clear b7
      go_wp2_with fail
      go_ret
      exact ⟨rfl, bt7⟩

end Go.Proofs.Ytgpkobpjgmdegaa

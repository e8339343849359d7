/-
  What is proved here: the walk of the law FnPilesRanks; no other condition.
-/
import Derived.Test.YtgnjncadecelhaaRanks
import Derived.Test.YtgnjncadecelhaaPiles
import Derived.Test.YtgnjncadecelhaaInvPlain
import Derived.Test.YtgnjncadecelhaaWf
import Derived.Test.YtgnjncadecelhaaSame
namespace Go.Proofs.Ytgnjncadecelhaa
open Go.RowKit
set_option linter.unusedVariables false

set_option maxRecDepth 100000 in
set_option maxHeartbeats 2000000 in
theorem walk_FnPilesRanks (v0 : Value) (x0 : List Int) (w : World) (h0 : Ro w v0 x0) (f0 : ∀ x ∈ x0, (Lit.int .i64 x).wf = true) (n0 : x0.length * 8 ≤ 140737488351232) :
    Calls Try.prog 14 #[v0] w fun e w' => e = .returned (.bool true) ∧ Below w.heap.size w w' := by
  have R_v0 := Lib.hid h0
  clear h0 f0
  go_enter Try.func14, Try.ntmps14
  go_wp2_with fail
  refine (unite_any _ (.slice none 0 0) x0 [] _ R_v0.out (ro_nil _) (by simp; omega)).mono ?_
  rintro e W1 ⟨u1, rfl, o1, b1⟩
  replace R_v0 := Lib.hid (R_v0.out.below b1)
  have bt1 : Below w.heap.size w W1 := b1
  clear b1
  have R_u1 := Lib.hid o1.ro
  clear o1
  obtain ⟨A_u1, c_u1, b_u1, off_u1, rfl, hnc_u1, hcm_u1, -, -⟩ := R_u1.out.shape
  obtain ⟨m1, h_m1⟩ : ∃ n, n = (uni (x0 ++ [])).length := ⟨_, rfl⟩
  rw [← h_m1] at R_u1 hnc_u1 ⊢
  have b_m1 : m1 ≤ 17592186044416 := by rw [h_m1]; rw [List.append_nil]; have := uni_len x0; omega
  have H_m1 := Lib.hid h_m1
  clear h_m1
  unfold maxLen at hcm_u1
  go_wp2_with fail
  refine (piles_any _ x0 _ R_v0.out (by omega)).mono ?_
  rintro e W2 ⟨u2, rfl, o2, b2⟩
  replace R_v0 := Lib.hid (R_v0.out.below b2)
  replace R_u1 := Lib.hid (R_u1.out.below b2)
  have bt2 : Below w.heap.size w W2 := bt1.trans (b2.mono bt1.size)
  clear bt1
  clear b2
  have R_u2 := Lib.hid o2.ro
  clear o2
  obtain ⟨A_u2, c_u2, b_u2, off_u2, rfl, hnc_u2, hcm_u2, -, -⟩ := R_u2.out.shape
  obtain ⟨m2, h_m2⟩ : ∃ n, n = (piles false x0).length := ⟨_, rfl⟩
  rw [← h_m2] at R_u2 hnc_u2 ⊢
  have b_m2 : m2 ≤ 17592186044416 := by rw [h_m2]; have := piles_len false x0; omega
  have H_m2 := Lib.hid h_m2
  clear h_m2
  unfold maxLen at hcm_u2
  go_wp2_with fail
  refine (ranks_any _ x0 _ R_v0.out (by omega)).mono ?_
  rintro e W3 ⟨u3, rfl, o3, b3⟩
  replace R_v0 := Lib.hid (R_v0.out.below b3)
  replace R_u1 := Lib.hid (R_u1.out.below b3)
  replace R_u2 := Lib.hid (R_u2.out.below b3)
  have bt3 : Below w.heap.size w W3 := bt2.trans (b3.mono bt2.size)
  clear bt2
  clear b3
  have R_u3 := Lib.hid o3.ro
  clear o3
  go_wp2_with fail
  refine (piles_any _ (ranks x0) _ R_u3.out (by rw [ranks_len]; omega)).mono ?_
  rintro e W4 ⟨u4, rfl, o4, b4⟩
  replace R_v0 := Lib.hid (R_v0.out.below b4)
  replace R_u1 := Lib.hid (R_u1.out.below b4)
  replace R_u2 := Lib.hid (R_u2.out.below b4)
  replace R_u3 := Lib.hid (R_u3.out.below b4)
  have bt4 : Below w.heap.size w W4 := bt3.trans (b4.mono bt3.size)
  clear bt3
  clear b4
  have R_u4 := Lib.hid o4.ro
  clear o4
  obtain ⟨A_u4, c_u4, b_u4, off_u4, rfl, hnc_u4, hcm_u4, -, -⟩ := R_u4.out.shape
  obtain ⟨m4, h_m4⟩ : ∃ n, n = (piles false (ranks x0)).length := ⟨_, rfl⟩
  rw [← h_m4] at R_u4 hnc_u4 ⊢
  have b_m4 : m4 ≤ 17592186044416 := by rw [h_m4]; have := piles_len false (ranks x0); rw [ranks_len] at this; omega
  have H_m4 := Lib.hid h_m4
  clear h_m4
  unfold maxLen at hcm_u4
  obtain rfl : m4 = m2 := by rw [H_m4.out, H_m2.out, piles_ranks, List.length_map]
  clear R_v0
  clear R_u3
  clear b_m4
  go_wp2_with fail
  go_loopg [22] m4 (fun kx s22 wr => ∃ k : Nat, k ≤ m4 ∧ s22 = .int .i64 k ∧ m4 - k ≤ kx ∧ Below W4.heap.size W4 wr)
  case atStart => exact ⟨0, Nat.zero_le _, rfl, by omega, Below.refl _ _⟩
  case round =>
    obtain ⟨k, hk, rfl, hkk, hb⟩ := hrel
    by_cases hlt : k < m4
    · obtain ⟨x, hx⟩ := get_some H_m2.out hlt
      have hxm : x ∈ x0 := piles_mem (List.mem_of_getElem? hx)
      have hr4 : (piles false (ranks x0))[k]? = some (rank x0 x : Int) := by rw [piles_ranks, List.getElem?_map, hx]; rfl
      obtain ⟨b4, o4, rfl, hc4, _⟩ := (R_u4.out.below hb).at hr4
      obtain ⟨b2, o2, rfl, hc2, _⟩ := (R_u2.out.below hb).at hx
      have hra : (uni (x0 ++ []))[rank x0 x]? = some x := by rw [List.append_nil]; exact rank_at hxm
      obtain ⟨b1, o1, rfl, hc1, _⟩ := (R_u1.out.below hb).at hra
      have hrl : rank x0 x < m1 := by rw [H_m1.out]; exact (List.getElem?_eq_some_iff.1 hra).1
      obtain ⟨r, hr⟩ : ∃ r, r = rank x0 x := ⟨_, rfl⟩
      rw [← hr] at hc4 hc1 hrl
      have z1 : (0 : Int) ≤ (k : Int) := by omega
      have z2 : (k : Int) < (m4 : Int) := by omega
      have z3 : (0 : Int) ≤ (r : Int) := by omega
      have z4 : (r : Int) < (m1 : Int) := by omega
      have z5 : ¬ m1 ≤ r := by omega
      clear hx hr4 hra hr
      go_wp2_with fail
      go_quiet (fail)
      go_wp2_with fail
      go_roundg (m4 - (k + 1))
      case measure => omega
      case rel => exact ⟨k + 1, by omega, by go_num, by omega, below_drawn hb _⟩
    · replace bt4 : Below w.heap.size w wr := bt4.trans (hb.mono bt4.size)
      clear R_u1 R_u2 R_u4 hb
      go_wp2_with fail
      refine (works_any _).mono ?_
      rintro e W5 ⟨rfl, b5⟩
      go_wp2_with fail
      go_ret
      exact ⟨rfl, bt4.trans (b5.mono bt4.size)⟩

end Go.Proofs.Ytgnjncadecelhaa

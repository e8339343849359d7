/-
  What is proved here: the walk of the law FnRanksOrder; no other condition.
-/
import Derived.Test.YtgpkobpjgmdegaaRanks
import Derived.Test.YtgpkobpjgmdegaaSame
import Derived.Test.YtgpkobpjgmdegaaWf
namespace Go.Proofs.Ytgpkobpjgmdegaa
open Go.RowKit
set_option linter.unusedVariables false

set_option maxRecDepth 100000 in
set_option maxHeartbeats 2000000 in
theorem walk_FnRanksOrder (v0 : Value) (x0 : List Int) (w : World) (h0 : Ro w v0 x0) (f0 : ∀ x ∈ x0, (Lit.int .i64 x).wf = true) (n0 : x0.length * 8 ≤ 140737488351232) :
    Calls Try.prog 14 #[v0] w fun e w' => e = .returned (.bool true) ∧ Below w.heap.size w w' := by
  have R_v0 := Lib.hid h0
  clear h0 f0
  obtain ⟨A0, c0, b0, off0, rfl, hnc0, hcm0, _, _⟩ := R_v0.out.shape
  obtain ⟨l0, hl0⟩ : ∃ n, n = x0.length := ⟨_, rfl⟩
  rw [← hl0] at R_v0 n0 hnc0 ⊢
  have HL0 := Lib.hid hl0
  clear hl0
  unfold maxLen at hcm0
  go_enter Try.func14, Try.ntmps14
  go_wp2_with fail
  refine (ranks_any _ x0 _ R_v0.out (by rw [← HL0.out]; omega)).mono ?_
  rintro e W1 ⟨u1, rfl, o1, b1⟩
  replace R_v0 := Lib.hid (R_v0.out.below b1)
  have bt1 : Below w.heap.size w W1 := b1
  clear b1
  have R_u1 := Lib.hid o1.ro
  clear o1
  obtain ⟨A_u1, c_u1, b_u1, off_u1, rfl, hnc_u1, hcm_u1, _, _⟩ := R_u1.out.shape
  obtain ⟨m1, h_m1⟩ : ∃ n, n = (ranks x0).length := ⟨_, rfl⟩
  rw [← h_m1] at R_u1 hnc_u1 ⊢
  have b_m1 : m1 ≤ l0 := by rw [h_m1]; rw [ranks_len, ← HL0.out]; exact Nat.le_refl _
  have H_m1 := Lib.hid h_m1
  clear h_m1
  unfold maxLen at hcm_u1
  obtain rfl : m1 = l0 := by have h := H_m1.out; rw [ranks_len, ← HL0.out] at h; exact h
  clear H_m1 b_m1
  go_wp2_with fail
  go_loopg [17] m1 (fun kx s29 wr => ∃ k : Nat, k ≤ m1 ∧ s29 = .int .i64 k ∧ m1 - k ≤ kx ∧ Below W1.heap.size W1 wr)
  case atStart => exact ⟨0, Nat.zero_le _, rfl, by omega, Below.refl _ _⟩
  case round =>
    obtain ⟨k, hk, rfl, hkk, hb⟩ := hrel
    by_cases hlt : k < m1
    · obtain ⟨wo, rfl⟩ : ∃ wo : World, wo = wr := ⟨_, rfl⟩
      go_wp2_with fail
      go_loopg [22] m1 (fun kx s22 wq => ∃ j : Nat, j ≤ m1 ∧ s22 = .int .i64 j ∧ m1 - j ≤ kx ∧ Below W1.heap.size W1 wq)
      case atStart => exact ⟨0, Nat.zero_le _, rfl, by omega, hb⟩
      case round =>
        clear hb
        obtain ⟨j, hj, rfl, hjk, hb⟩ := hrel
        by_cases hjl : j < m1
        · obtain ⟨x, hx⟩ := get_some HL0.out hlt
          obtain ⟨y, hy⟩ := get_some HL0.out hjl
          obtain ⟨b1, o1, rfl, hc1, _⟩ := (R_u1.out.below hb).at (ranks_get x0 k x hx)
          have hc2 := (R_u1.out.below hb).at (ranks_get x0 j y hy)
          obtain ⟨b2, o2, e2, hc2, _⟩ := hc2
          simp only [Option.some.injEq, Addr.mk.injEq, and_true] at e2
          obtain ⟨rfl, rfl⟩ := e2
          obtain ⟨b3, o3, rfl, hc3, _⟩ := (R_v0.out.below hb).at hx
          obtain ⟨b4, o4, e4, hc4, _⟩ := (R_v0.out.below hb).at hy
          simp only [Option.some.injEq, Addr.mk.injEq, and_true] at e4
          obtain ⟨rfl, rfl⟩ := e4
          have hcmp := rank_lt (x := x0) (List.mem_of_getElem? hx) (List.mem_of_getElem? hy)
          obtain ⟨r, hr⟩ : ∃ r : Int, r = rank x0 x := ⟨_, rfl⟩
          obtain ⟨s, hs⟩ : ∃ s : Int, s = rank x0 y := ⟨_, rfl⟩
          rw [← hr] at hc1 hcmp
          rw [← hs] at hc2 hcmp
          have z1 : (0 : Int) ≤ (k : Int) := by omega
          have z2 : (k : Int) < (m1 : Int) := by omega
          have z3 : (0 : Int) ≤ (j : Int) := by omega
          have z4 : (j : Int) < (m1 : Int) := by omega
          have HCMP := Lib.hid hcmp
          clear hx hy hr hs hcmp
          have hB : (decide (x < y) == decide (r < s)) = true := by
            rw [beq_iff_eq, Bool.eq_iff_iff, decide_eq_true_iff, decide_eq_true_iff]
            exact HCMP.out.symm
          go_wp2_with fail
          go_quiet (fail)
          go_wp2_with fail
          go_roundg (m1 - (j + 1))
          case measure => omega
          case rel => exact ⟨j + 1, by omega, by go_num, by omega, below_drawn hb _⟩
        · go_wp2_with fail
          go_roundg (m1 - (k + 1))
          case measure => omega
          case rel => exact ⟨k + 1, by omega, by go_num, by omega, hb⟩
    · replace R_u1 := Lib.hid (R_u1.out.below hb)
      replace bt1 : Below w.heap.size w wr := bt1.trans (hb.mono bt1.size)
      clear R_v0 hb
      go_wp2_with fail
      refine (unite_any _ (.slice none 0 0) (ranks x0) [] _ R_u1.out (ro_nil _) (by simp; rw [ranks_len, ← HL0.out]; omega)).mono ?_
      rintro e W2 ⟨u2, rfl, o2, b2⟩
      replace R_u1 := Lib.hid (R_u1.out.below b2)
      have bt2 : Below w.heap.size w W2 := bt1.trans (b2.mono bt1.size)
      clear bt1
      clear b2
      have R_u2 := Lib.hid o2.ro
      clear o2
      obtain ⟨A_u2, c_u2, b_u2, off_u2, rfl, hnc_u2, hcm_u2, _, _⟩ := R_u2.out.shape
      obtain ⟨m2, h_m2⟩ : ∃ n, n = (uni (ranks x0 ++ [])).length := ⟨_, rfl⟩
      rw [← h_m2] at R_u2 hnc_u2 ⊢
      have b_m2 : m2 ≤ m1 := by rw [h_m2]; rw [List.append_nil, HL0.out]; have := uni_len (ranks x0); rw [ranks_len] at this; exact this
      have H_m2 := Lib.hid h_m2
      clear h_m2
      unfold maxLen at hcm_u2
      have HU := Lib.hid (show uni (ranks x0 ++ []) = upTo (uni x0).length by rw [List.append_nil, uni_ranks])
      go_wp2_with fail
      go_loopg [49] m2 (fun kx s29 wr => ∃ k : Nat, k ≤ m2 ∧ s29 = .int .i64 k ∧ m2 - k ≤ kx ∧ wr = W2)
      case atStart => exact ⟨0, Nat.zero_le _, rfl, by omega, rfl⟩
      case round =>
        obtain ⟨k, hk, rfl, hkk, rfl⟩ := hrel
        by_cases hlt : k < m2
        · have hx : (uni (ranks x0 ++ []))[k]? = some (k : Int) := by
            have h2 := H_m2.out
            rw [HU.out, upTo_len] at h2
            rw [HU.out]
            exact upTo_get _ _ (by omega)
          obtain ⟨b1, o1, rfl, hc1, _⟩ := R_u2.out.at hx
          clear hx
          go_wp2_with fail
          go_roundg (m2 - (k + 1))
          case measure => omega
          case rel => exact ⟨k + 1, by omega, by go_num, by omega, rfl⟩
        · clear R_u1 R_u2
          go_wp2_with fail
          refine (works_any _).mono ?_
          rintro e W3 ⟨rfl, b3⟩
          go_wp2_with fail
          go_ret
          exact ⟨rfl, bt2.trans (b3.mono bt2.size)⟩

end Go.Proofs.Ytgpkobpjgmdegaa

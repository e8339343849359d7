/-
  What is proved here: the walk of the law FnPilesRise; no other condition.
-/
import Derived.Test.YtlcliogddepmiaaWPiles
import Derived.Test.YtlcliogddepmiaaHas
import Derived.Test.YtlcliogddepmiaaWf
import Derived.Test.YtlcliogddepmiaaPilesMore
import Derived.Test.YtlcliogddepmiaaSame
namespace Go.Proofs.Ytlcliogddepmiaa
open Go.RowKit
set_option linter.unusedVariables false

set_option maxRecDepth 100000 in
set_option maxHeartbeats 8000000 in
theorem walk_FnPilesRise (v0 : Value) (x0 : List Int) (w : World) (h0 : Ro w v0 x0) (f0 : ∀ x ∈ x0, (Lit.int .i64 x).wf = true) (n0 : x0.length * 8 ≤ 140737488351232) :
    Calls Try.prog 10 #[v0] w fun e w' => e = .returned (.bool true) ∧ Below w.heap.size w w' := by
  have R_v0 := Lib.hid h0
  clear h0 f0
  obtain ⟨A0, c0, b0, off0, rfl, hnc0, hcm0, -, -⟩ := R_v0.out.shape
  obtain ⟨l0, hl0⟩ : ∃ n, n = x0.length := ⟨_, rfl⟩
  rw [← hl0] at R_v0 n0 hnc0 ⊢
  have HL0 := Lib.hid hl0
  clear hl0
  unfold maxLen at hcm0
  go_enter Try.func10, Try.ntmps10
  go_wp2_with fail
  refine (piles_any _ x0 _ R_v0.out (by rw [← HL0.out]; omega)).mono ?_
  rintro e W1 ⟨u1, rfl, o1, b1⟩
  replace R_v0 := Lib.hid (R_v0.out.below b1)
  have bt1 : Below w.heap.size w W1 := b1
  clear b1
  have R_u1 := Lib.hid o1.ro
  clear o1
  obtain ⟨A_u1, c_u1, b_u1, off_u1, rfl, hnc_u1, hcm_u1, -, -⟩ := R_u1.out.shape
  obtain ⟨m1, h_m1⟩ : ∃ n, n = (piles false x0).length := ⟨_, rfl⟩
  rw [← h_m1] at R_u1 hnc_u1 ⊢
  have b_m1 : m1 ≤ l0 := by rw [h_m1]; rw [HL0.out]; exact piles_len false x0
  have H_m1 := Lib.hid h_m1
  clear h_m1
  unfold maxLen at hcm_u1
  go_wp2_with fail
  refine (weakPiles_any _ x0 _ R_v0.out (by rw [← HL0.out]; omega)).mono ?_
  rintro e W2 ⟨u2, rfl, o2, b2⟩
  replace R_v0 := Lib.hid (R_v0.out.below b2)
  replace R_u1 := Lib.hid (R_u1.out.below b2)
  have bt2 : Below w.heap.size w W2 := bt1.trans (b2.mono bt1.size)
  clear bt1
  clear b2
  have R_u2 := Lib.hid o2.ro
  clear o2
  obtain ⟨A_u2, c_u2, b_u2, off_u2, rfl, hnc_u2, hcm_u2, -, -⟩ := R_u2.out.shape
  obtain ⟨m2, h_m2⟩ : ∃ n, n = (piles true x0).length := ⟨_, rfl⟩
  rw [← h_m2] at R_u2 hnc_u2 ⊢
  have b_m2 : m2 ≤ l0 := by rw [h_m2]; rw [HL0.out]; exact piles_len true x0
  have H_m2 := Lib.hid h_m2
  clear h_m2
  unfold maxLen at hcm_u2
  go_wp2_with fail
  go_loopg [15] m1 (fun kx s15 wr => ∃ k : Nat, k ≤ m1 ∧ s15 = .int .i64 k ∧ m1 - k ≤ kx ∧ Below W2.heap.size W2 wr)
  case atStart => exact ⟨0, Nat.zero_le _, rfl, by omega, Below.refl _ _⟩
  case round =>
    obtain ⟨k, hk, rfl, hkk, hb⟩ := hrel
    by_cases hlt : k < m1
    · obtain ⟨x, hx⟩ := get_some H_m1.out hlt
      have hmem : decide (x ∈ x0) = true := by simpa using piles_mem (List.mem_of_getElem? hx)
      obtain ⟨b1, o1, rfl, hc1, -⟩ := (R_u1.out.below hb).at hx
      have HXK := Lib.hid hx
      have z1 : (0 : Int) ≤ (k : Int) := by omega
      have z2 : (k : Int) < (m1 : Int) := by omega
      clear hx
      rcases Nat.eq_zero_or_pos k with h0 | h0
      · subst h0
        rw [Nat.add_zero] at hc1
        have z3 : 0 < m1 := by omega
        have z4 : (0 : Int) < (m1 : Int) := by omega
        clear z1 z2
        go_wp2_with fail
        refine (has_any _ x0 x _ (R_v0.out.below hb) (by rw [← HL0.out]; omega)).mono ?_
        rw [hmem]
        rintro e w' ⟨rfl, rfl⟩
        go_wp2_with fail
        go_roundg (m1 - (0 + 1))
        case measure => omega
        case rel => exact ⟨0 + 1, by omega, by go_num, by omega, hb⟩
      · obtain ⟨y, hy⟩ := get_some H_m1.out (show k - 1 < m1 by omega)
        have hyx : y < x := by
          have h1 := piles_rise false x0
          obtain ⟨p1, p2⟩ := List.getElem?_eq_some_iff.1 hy
          obtain ⟨p3, p4⟩ := List.getElem?_eq_some_iff.1 HXK.out
          have h2 := List.pairwise_iff_getElem.1 h1 (k - 1) k p1 p3 (by omega)
          rw [p2, p4] at h2
          simpa using h2
        obtain ⟨b2, o2, e2, hc2, -⟩ := (R_u1.out.below hb).at hy
        simp only [Option.some.injEq, Addr.mk.injEq, and_true] at e2
        obtain ⟨rfl, rfl⟩ := e2
        have y1 : (0 : Int) ≤ (k : Int) - 1 := by omega
        have y2 : (k : Int) - 1 < (m1 : Int) := by omega
        have y3 : ((k : Int) - 1).toNat = k - 1 := by omega
        have y4 : (0 : Int) < (k : Int) := by omega
        have y5 : (1 : Int) ≤ (k : Int) := by omega
        have y6 : ¬ x ≤ y := by omega
        clear hy
        go_wp2_with fail
        refine (has_any _ x0 x _ (R_v0.out.below hb) (by rw [← HL0.out]; omega)).mono ?_
        rw [hmem]
        rintro e w' ⟨rfl, rfl⟩
        go_wp2_with fail
        go_roundg (m1 - (k + 1))
        case measure => omega
        case rel => exact ⟨k + 1, by omega, by go_num, by omega, hb⟩
    · replace R_v0 := Lib.hid (R_v0.out.below hb)
      replace R_u1 := Lib.hid (R_u1.out.below hb)
      replace R_u2 := Lib.hid (R_u2.out.below hb)
      have bt3 : Below w.heap.size w wr := bt2.trans (hb.mono bt2.size)
      clear hb hkk
      obtain ⟨W3, rfl⟩ : ∃ W3 : World, W3 = wr := ⟨_, rfl⟩
      go_wp2_with fail
      go_loopg [40] m2 (fun kx s15 wr => ∃ k : Nat, k ≤ m2 ∧ s15 = .int .i64 k ∧ m2 - k ≤ kx ∧ Below W3.heap.size W3 wr)
      case atStart => exact ⟨0, Nat.zero_le _, rfl, by omega, Below.refl _ _⟩
      case round =>
        obtain ⟨k, hk, rfl, hkk, hb⟩ := hrel
        by_cases hlt : k < m2
        · obtain ⟨x, hx⟩ := get_some H_m2.out hlt
          have hmem : decide (x ∈ x0) = true := by simpa using piles_mem (List.mem_of_getElem? hx)
          obtain ⟨b1, o1, rfl, hc1, -⟩ := (R_u2.out.below hb).at hx
          have HXK := Lib.hid hx
          have z1 : (0 : Int) ≤ (k : Int) := by omega
          have z2 : (k : Int) < (m2 : Int) := by omega
          clear hx
          rcases Nat.eq_zero_or_pos k with h0 | h0
          · subst h0
            rw [Nat.add_zero] at hc1
            have z3 : 0 < m2 := by omega
            have z4 : (0 : Int) < (m2 : Int) := by omega
            clear z1 z2
            go_wp2_with fail
            refine (has_any _ x0 x _ (R_v0.out.below hb) (by rw [← HL0.out]; omega)).mono ?_
            rw [hmem]
            rintro e w' ⟨rfl, rfl⟩
            go_wp2_with fail
            go_roundg (m2 - (0 + 1))
            case measure => omega
            case rel => exact ⟨0 + 1, by omega, by go_num, by omega, hb⟩
          · obtain ⟨y, hy⟩ := get_some H_m2.out (show k - 1 < m2 by omega)
            have hyx : y ≤ x := by
              have h1 := piles_rise true x0
              obtain ⟨p1, p2⟩ := List.getElem?_eq_some_iff.1 hy
              obtain ⟨p3, p4⟩ := List.getElem?_eq_some_iff.1 HXK.out
              have h2 := List.pairwise_iff_getElem.1 h1 (k - 1) k p1 p3 (by omega)
              rw [p2, p4] at h2
              simpa using h2
            obtain ⟨b2, o2, e2, hc2, -⟩ := (R_u2.out.below hb).at hy
            simp only [Option.some.injEq, Addr.mk.injEq, and_true] at e2
            obtain ⟨rfl, rfl⟩ := e2
            have y1 : (0 : Int) ≤ (k : Int) - 1 := by omega
            have y2 : (k : Int) - 1 < (m2 : Int) := by omega
            have y3 : ((k : Int) - 1).toNat = k - 1 := by omega
            have y4 : (0 : Int) < (k : Int) := by omega
            have y5 : (1 : Int) ≤ (k : Int) := by omega
            have y6 : ¬ x < y := by omega
            clear hy
            go_wp2_with fail
            refine (has_any _ x0 x _ (R_v0.out.below hb) (by rw [← HL0.out]; omega)).mono ?_
            rw [hmem]
            rintro e w' ⟨rfl, rfl⟩
            go_wp2_with fail
            go_roundg (m2 - (k + 1))
            case measure => omega
            case rel => exact ⟨k + 1, by omega, by go_num, by omega, hb⟩
        · replace R_v0 := Lib.hid (R_v0.out.below hb)
          replace R_u1 := Lib.hid (R_u1.out.below hb)
          replace R_u2 := Lib.hid (R_u2.out.below hb)
          have bt4 : Below w.heap.size w wr := bt3.trans (hb.mono bt3.size)
          clear hb hkk
          have hle : m1 ≤ m2 := by rw [H_m1.out, H_m2.out]; exact piles_weak_le x0
          have hpos : 0 < m1 ↔ 0 < l0 := by rw [H_m1.out, HL0.out]; exact piles_pos false x0
          have q1 : (m1 : Int) ≤ (m2 : Int) := by omega
          have q2 : (m2 : Int) ≤ (l0 : Int) := by omega
          have q3 : (decide (0 < m1) == decide (0 < l0)) = true := by rw [beq_iff_eq, Bool.eq_iff_iff, decide_eq_true_iff, decide_eq_true_iff]; exact hpos
          have q4 : (decide ((0 : Int) < (m1 : Int)) == decide ((0 : Int) < (l0 : Int))) = true := by rw [beq_iff_eq, Bool.eq_iff_iff, decide_eq_true_iff, decide_eq_true_iff]; omega
          clear hpos
          go_wp2_with fail
          refine (works_any _).mono ?_
          rintro e W5 ⟨rfl, b5⟩
          go_wp2_with fail
          go_ret
          exact ⟨rfl, bt4.trans (b5.mono bt4.size)⟩

end Go.Proofs.Ytlcliogddepmiaa

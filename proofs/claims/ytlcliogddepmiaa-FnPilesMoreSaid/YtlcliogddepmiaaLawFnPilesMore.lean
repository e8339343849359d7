/-
  What is proved here: the walk of the law FnPilesMore; no other condition.
-/
import Derived.Test.YtlcliogddepmiaaPiles
import Derived.Test.YtlcliogddepmiaaJoin
import Derived.Test.YtlcliogddepmiaaHas
import Derived.Test.YtlcliogddepmiaaWf
import Derived.Test.YtlcliogddepmiaaPilesMore
import Derived.Test.YtlcliogddepmiaaSame
namespace Go.Proofs.Ytlcliogddepmiaa
open Go.RowKit
set_option linter.unusedVariables false

set_option maxRecDepth 100000 in
set_option maxHeartbeats 8000000 in
theorem walk_FnPilesMore (v0 : Value) (x0 : List Int) (a1 : Int) (w : World) (h0 : Ro w v0 x0) (f0 : ∀ x ∈ x0, (Lit.int .i64 x).wf = true) (n0 : x0.length * 8 ≤ 140737488351232) (f1 : (Lit.int .i64 a1).wf = true) :
    Calls Try.prog 7 #[v0, .int .i64 a1] w fun e w' => e = .returned (.bool true) ∧ Below w.heap.size w w' := by
  have R_v0 := Lib.hid h0
  clear h0 f0
  clear f1
  have n1 : x0.length ≤ 17592186043904 := by omega
  go_enter Try.func7, Try.ntmps7
  go_wp2_with fail
  refine (piles_any _ x0 _ R_v0.out (by omega)).mono ?_
  rintro e W1 ⟨u1, rfl, o1, b1⟩
  replace R_v0 := Lib.hid (R_v0.out.below b1)
  have bt1 : Below w.heap.size w W1 := b1
  clear b1
  have R_u1 := Lib.hid o1.ro
  clear o1
  obtain ⟨A_u1, c_u1, b_u1, off_u1, rfl, hnc_u1, hcm_u1, -, -⟩ := R_u1.out.shape
  obtain ⟨m1, h_m1⟩ : ∃ n, n = (piles false x0).length := ⟨_, rfl⟩
  rw [← h_m1] at R_u1 hnc_u1 ⊢
  have b_m1 : m1 ≤ 17592186043904 := by rw [h_m1]; have := piles_len false x0; omega
  have H_m1 := Lib.hid h_m1
  clear h_m1
  unfold maxLen at hcm_u1
  go_wp2_with fail
  have hal : Below W1.heap.size W1 (W1.alloc (.cells #[.int .i64 a1] 3)) := (Below.refl _ _).alloc (Nat.le_refl _) _
  have R_s : Hid (Ro (W1.alloc (.cells #[.int .i64 a1] 3)) (.slice (some ⟨W1.heap.size, 0, none⟩) 1 1) [a1]) :=
    ⟨_, _, W1.heap.size, 0, rfl, Nat.le_refl _, by unfold maxLen; omega, fun _ => ⟨rfl, by simp⟩, fun k x hx => by
      match k, hx with
      | 0, hx => simp at hx; subst hx; simp [go_sem]⟩
  refine (joined_any _ _ x0 [a1] _ (R_v0.out.below hal) R_s.out (by simp; omega)).mono ?_
  rintro e W2 ⟨u2, rfl, o2, b2⟩
  have b2' : Below W1.heap.size W1 W2 := hal.trans (b2.mono (by simp))
  replace R_v0 := Lib.hid (R_v0.out.below b2')
  replace R_u1 := Lib.hid (R_u1.out.below b2')
  have bt2 : Below w.heap.size w W2 := bt1.trans (b2'.mono bt1.size)
  have R_u2 := Lib.hid o2.ro
  clear o2 b2 b2' R_s hal bt1
  go_wp2_with fail
  refine (piles_any _ (x0 ++ [a1]) _ R_u2.out (by simp; omega)).mono ?_
  rintro e W3 ⟨u3, rfl, o3, b3⟩
  replace R_v0 := Lib.hid (R_v0.out.below b3)
  replace R_u1 := Lib.hid (R_u1.out.below b3)
  replace R_u2 := Lib.hid (R_u2.out.below b3)
  have bt3 : Below w.heap.size w W3 := bt2.trans (b3.mono bt2.size)
  clear bt2
  clear b3
  have R_u3 := Lib.hid o3.ro
  clear o3
  obtain ⟨A_u3, c_u3, b_u3, off_u3, rfl, hnc_u3, hcm_u3, -, -⟩ := R_u3.out.shape
  obtain ⟨m3, h_m3⟩ : ∃ n, n = (piles false (x0 ++ [a1])).length := ⟨_, rfl⟩
  rw [← h_m3] at R_u3 hnc_u3 ⊢
  have b_m3 : m3 ≤ 17592186043905 := by rw [h_m3]; have := piles_len false (x0 ++ [a1]); simp at this; omega
  have H_m3 := Lib.hid h_m3
  clear h_m3
  unfold maxLen at hcm_u3
  clear R_u2
  clear R_v0
  obtain ⟨i, hi1, hi2, hi3⟩ := piles_more x0 a1
  rw [← H_m1.out] at hi1 hi2
  have hm3 : (i < m1 ∧ m3 = m1) ∨ (i = m1 ∧ m3 = m1 + 1) := by
    rw [H_m3.out, hi2]
    split
    · left; exact ⟨by assumption, by rw [List.length_set, H_m1.out]⟩
    · right; exact ⟨by omega, by rw [List.length_append, H_m1.out]; rfl⟩
  have hmem : decide (a1 ∈ piles false (x0 ++ [a1])) = true := by
    rw [decide_eq_true_iff, hi2]
    split
    · rename_i h; exact List.mem_iff_getElem?.2 ⟨i, by rw [List.getElem?_set_self (by rw [← H_m1.out]; exact h)]⟩
    · simp
  have hat : ∀ k y, (piles false x0)[k]? = some y → ∃ z, (piles false (x0 ++ [a1]))[k]? = some z ∧ z ≤ y ∧ (z < y → k = i ∧ i < m1) := by
    intro k y hy
    have hkl := (List.getElem?_eq_some_iff.1 hy).1
    rw [← H_m1.out] at hkl
    rw [hi2]
    split
    · rename_i h
      by_cases hk : k = i
      · subst hk
        exact ⟨a1, by rw [List.getElem?_set_self (by rw [← H_m1.out]; exact h)], hi3 y hy, fun _ => ⟨rfl, h⟩⟩
      · exact ⟨y, by rw [List.getElem?_set_ne (fun e => hk e.symm)]; exact hy, Int.le_refl _, fun h => by omega⟩
    · exact ⟨y, by rw [List.getElem?_append_left (by rw [← H_m1.out]; exact hkl)]; exact hy, Int.le_refl _, fun h => by omega⟩
  have HAT := Lib.hid hat
  have HMEM := Lib.hid hmem
  clear hat hmem hi2 hi3
  have k1 : m1 ≤ m3 := by omega
  have k2 : m3 ≤ m1 + 1 := by omega
  have k3 : ¬ m3 < m1 := by omega
  have k4 : (m1 : Int) ≤ (m3 : Int) := by omega
  have k5 : (m3 : Int) ≤ (m1 : Int) + 1 := by omega
  have k6 : ¬ (m1 : Int) + 1 < (m3 : Int) := by omega
  have HM := Lib.hid hm3
  clear hm3
  obtain ⟨c0, hc0⟩ : ∃ c : Nat, (c : Int) = (m3 : Int) - (m1 : Int) := ⟨m3 - m1, by omega⟩
  have HC0 := Lib.hid hc0
  clear hc0
  go_wp2_with fail
  go_loopg [7, 36] m1 (fun kx s7 s36 wr => ∃ (k : Nat) (c : Int), k ≤ m1 ∧ s7 = .int .i64 c ∧ s36 = .int .i64 k ∧ m1 - k ≤ kx ∧ Below W3.heap.size W3 wr ∧ 0 ≤ c ∧ c ≤ 1 ∧ Hid (i < m1 → k ≤ i → c = 0))
  case atStart => exact ⟨0, (m3 : Int) - (m1 : Int), Nat.zero_le _, rfl, rfl, by omega, Below.refl _ _, by omega, by omega, (by show i < m1 → 0 ≤ i → (m3 : Int) - (m1 : Int) = 0; intro h _; have := HM.out; omega)⟩
  case round =>
    obtain ⟨k, c, hk, rfl, rfl, hkk, hb, hc1, hc2, HC⟩ := hrel
    by_cases hlt : k < m1
    · obtain ⟨y, hy⟩ := get_some H_m1.out hlt
      obtain ⟨z, hz, hzy, hzl⟩ := HAT.out k y hy
      obtain ⟨b1, o1, rfl, hca, -⟩ := (R_u1.out.below hb).at hy
      obtain ⟨b3, o3, rfl, hcb, -⟩ := (R_u3.out.below hb).at hz
      have HZL := Lib.hid hzl
      have z1 : (0 : Int) ≤ (k : Int) := by omega
      have z2 : (k : Int) < (m1 : Int) := by omega
      have z3 : (k : Int) < (m3 : Int) := by omega
      have z4 : ¬ y < z := by omega
      clear hy hz hzl
      by_cases hs : z < y
      · have HE1 := Lib.hid (HZL.out hs).1
        have e2 := (HZL.out hs).2
        have hc0 : c = 0 := HC.out e2 (by rw [HE1.out]; exact Nat.le_refl _)
        subst hc0
        go_wp2_with fail
        go_quiet (fail)
        go_wp2_with fail
        go_quiet (fail)
        go_wp2_with fail
        go_roundg (m1 - (k + 1))
        case measure => omega
        case rel => exact ⟨k + 1, 1, by omega, by go_num, by go_num, by omega, below_drawn hb _, by omega, by omega, (by show i < m1 → k + 1 ≤ i → (1 : Int) = 0; intro _ h; have := HE1.out; omega)⟩
      · go_wp2_with fail
        go_quiet (fail)
        go_wp2_with fail
        go_quiet (fail)
        go_wp2_with fail
        go_roundg (m1 - (k + 1))
        case measure => omega
        case rel => exact ⟨k + 1, c, by omega, rfl, by go_num, by omega, below_drawn hb _, hc1, hc2, (by show i < m1 → k + 1 ≤ i → c = 0; intro h1 h2; exact HC.out h1 (by omega))⟩
    · have bt4 : Below w.heap.size w wr := bt3.trans (hb.mono bt3.size)
      replace R_u3 := Lib.hid (R_u3.out.below hb)
      clear hb
      go_wp2_with fail
      refine (has_any _ (piles false (x0 ++ [a1])) a1 _ R_u3.out (by rw [← H_m3.out]; omega)).mono ?_
      rw [HMEM.out]
      rintro e w' ⟨rfl, rfl⟩
      go_wp2_with fail
      refine (works_any _).mono ?_
      rintro e W5 ⟨rfl, b5⟩
      go_wp2_with fail
      go_ret
      exact ⟨rfl, bt4.trans (b5.mono bt4.size)⟩

end Go.Proofs.Ytlcliogddepmiaa

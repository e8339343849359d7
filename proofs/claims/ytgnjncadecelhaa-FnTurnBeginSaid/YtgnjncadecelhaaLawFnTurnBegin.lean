/-
  What is proved here: the walk of the law FnTurnBegin; no other condition.
-/
import Derived.Test.YtgnjncadecelhaaTurn
import Derived.Test.YtgnjncadecelhaaBegin
import Derived.Test.YtgnjncadecelhaaTurnPlain
import Derived.Test.YtgnjncadecelhaaSame
namespace Go.Proofs.Ytgnjncadecelhaa
open Go.RowKit
set_option linter.unusedVariables false

set_option maxRecDepth 100000 in
set_option maxHeartbeats 2000000 in
theorem walk_FnTurnBegin (v0 : Value) (x0 : List Int) (a1 : Int) (w : World) (h0 : Ro w v0 x0) (f0 : ∀ x ∈ x0, (Lit.int .i64 x).wf = true) (n0 : x0.length * 8 ≤ 140737488351232) (f1 : (Lit.int .i64 a1).wf = true) :
    Calls Try.prog 12 #[v0, .int .i64 a1] w fun e w' => e = .returned (.bool true) ∧ Below w.heap.size w w' := by
  have R_v0 := Lib.hid h0
  clear h0 f0
  clear f1
  obtain ⟨A0, c0, b0, off0, rfl, hnc0, hcm0, -, -⟩ := R_v0.out.shape
  obtain ⟨l0, hl0⟩ : ∃ n, n = x0.length := ⟨_, rfl⟩
  rw [← hl0] at R_v0 n0 hnc0 ⊢
  have HL0 := Lib.hid hl0
  clear hl0
  unfold maxLen at hcm0
  obtain ⟨q, hq, hqk, hturn⟩ := turn_q x0 a1
  obtain ⟨n, hn⟩ : ∃ n, n = (uni x0).length := ⟨_, rfl⟩
  rw [← hn] at hq hqk
  have hnl : n ≤ l0 := by rw [hn, HL0.out]; exact uni_len x0
  have HT := Lib.hid hturn
  have HN := Lib.hid hn
  have HQ := Lib.hid hqk
  clear hn hturn hqk
  go_enter Try.func12, Try.ntmps12
  go_wp2_with fail
  refine (turn_any _ x0 a1 _ R_v0.out (by rw [← HL0.out]; omega)).mono ?_
  rintro e W1 ⟨u1, rfl, o1, b1⟩
  replace R_v0 := Lib.hid (R_v0.out.below b1)
  have bt1 : Below w.heap.size w W1 := b1
  clear b1
  have R_u1 := Lib.hid o1.ro
  clear o1
  obtain ⟨A_u1, c_u1, b_u1, off_u1, rfl, hnc_u1, hcm_u1, -, -⟩ := R_u1.out.shape
  obtain ⟨m1, h_m1⟩ : ∃ n, n = (turn x0 a1).length := ⟨_, rfl⟩
  rw [← h_m1] at R_u1 hnc_u1 ⊢
  have b_m1 : m1 ≤ 17592186044416 := by rw [h_m1]; rw [turn_len]; have := uni_len x0; rw [← HL0.out] at this; omega
  have H_m1 := Lib.hid h_m1
  clear h_m1
  unfold maxLen at hcm_u1
  obtain rfl : m1 = n := by have h := H_m1.out; rw [turn_len, ← HN.out] at h; exact h
  have HTS : Hid (∀ i, i < m1 → ((turn x0 a1).getD i 0 ≤ (turn x0 a1).getD (m1 - 1) 0 ↔ beg m1 q ≤ i)) := fun i hi => by
    have h := turned_test (uni_sasc x0) (q := q) (i := i) (by rw [← HN.out]; exact (HQ.out (by omega)).1) (by rw [← HN.out]; exact hi)
    rw [← HN.out, ← HT.out] at h
    exact h
  have HMO : Hid (∀ a b, a ≤ b → b < (turn x0 a1).length → (turn x0 a1).getD a 0 ≤ (turn x0 a1).getD ((turn x0 a1).length - 1) 0 → (turn x0 a1).getD b 0 ≤ (turn x0 a1).getD ((turn x0 a1).length - 1) 0) := fun a b hab hb h => by
    rw [← H_m1.out] at hb h ⊢
    have h1 := (HTS.out a (by omega)).1 h
    exact (HTS.out b hb).2 (by omega)
  rcases Nat.eq_zero_or_pos m1 with h0 | h0
  · obtain rfl : l0 = 0 := by have h := uni_empty (x := x0); rw [← HN.out, ← HL0.out] at h; exact h.1 h0
    subst h0
    go_wp2_with fail
    refine (begin_any _ _ _ R_u1.out (by rw [← H_m1.out]; omega) HMO.out).mono ?_
    rintro e W2 ⟨i, rfl, hi, _, _, b2⟩
    rw [← H_m1.out] at hi
    obtain rfl : i = 0 := by omega
    go_wp2_with fail
    refine (works_any _).mono ?_
    rintro e W3 ⟨rfl, b3⟩
    go_wp2_with fail
    go_ret
    exact ⟨rfl, (bt1.trans (b2.mono bt1.size)).trans (b3.mono (Nat.le_trans bt1.size b2.size))⟩
  · have hqn := (HQ.out h0).1
    have hm0 : ((m1 : Int) == 0) = false := by simp; omega
    go_wp2_with fail
    refine (begin_any _ _ _ R_u1.out (by rw [← H_m1.out]; omega) HMO.out).mono ?_
    rintro e W2 ⟨i, rfl, hi, hf1, hf2, b2⟩
    rw [← H_m1.out] at hi hf1 hf2
    have hib : i = beg m1 q := by
      have hb : beg m1 q ≤ m1 := by unfold beg; split <;> omega
      rcases Nat.lt_trichotomy i (beg m1 q) with h | h | h
      · have h1 := hf2 i (Nat.le_refl _) (by omega)
        rw [decide_eq_true_iff] at h1
        have h2 := (HTS.out i (by omega)).1 h1
        omega
      · exact h
      · have h1 := hf1 (beg m1 q) h
        rw [decide_eq_false_iff_not] at h1
        exact absurd ((HTS.out _ (by omega)).2 (Nat.le_refl _)) h1
    have HIB := Lib.hid (show i = (m1 - q) % m1 by rw [hib, beg_eq hqn])
    clear hf1 hf2 hib
    go_wp2_with fail
    refine (specAt_any a1 (m1 : Int) _ (by omega) (by omega)).mono ?_
    rw [← (HQ.out h0).2]
    rintro e w' ⟨rfl, rfl⟩
    have y1 : (0 : Int) ≤ (m1 : Int) - (q : Int) := by omega
    have y2 : ((i : Int) == -(q : Int) % (m1 : Int)) = true := by
      rw [beq_iff_eq, HIB.out]
      have h1 : ((m1 - q : Nat) : Int) = -(q : Int) + (m1 : Int) := by omega
      rw [Int.natCast_emod, h1, Int.add_emod_right]
    have hm1 : ¬ m1 = 0 := by omega
    go_wp2_with fail
    refine (works_any _).mono ?_
    rintro e W3 ⟨rfl, b3⟩
    go_wp2_with fail
    go_ret
    exact ⟨rfl, (bt1.trans (b2.mono bt1.size)).trans (b3.mono (Nat.le_trans bt1.size b2.size))⟩

end Go.Proofs.Ytgnjncadecelhaa

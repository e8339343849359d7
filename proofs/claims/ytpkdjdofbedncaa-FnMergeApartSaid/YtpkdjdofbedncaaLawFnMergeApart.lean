/-
  What is proved here: the walk of the law FnMergeApart; no other condition.
-/
import Derived.Test.YtpkdjdofbedncaaSpans
import Derived.Test.YtpkdjdofbedncaaSame
namespace Go.Proofs.Ytpkdjdofbedncaa
open Go.RowKit
set_option linter.unusedVariables false

set_option maxRecDepth 100000 in
set_option maxHeartbeats 4000000 in
theorem walk_FnMergeApart (v0 : Value) (x0 : List (Int × Int)) (w : World) (h0 : Ros2 w v0 x0) (f0 : ∀ x ∈ x0, (Lit.int .i64 x.1).wf = true ∧ (Lit.int .i64 x.2).wf = true) (n0 : x0.length * 16 ≤ 140737488351232) :
    Calls Try.prog 7 #[v0] w fun e w' => e = .returned (.bool true) ∧ Below w.heap.size w w' := by
  have R_v0 := Lib.hid h0
  clear h0 f0
  obtain ⟨A0, c0, b0, off0, rfl, hnc0, hcm0, -, -⟩ := R_v0.out.shape
  obtain ⟨l0, hl0⟩ : ∃ n, n = x0.length := ⟨_, rfl⟩
  rw [← hl0] at R_v0 n0 hnc0 ⊢
  have HL0 := Lib.hid hl0
  clear hl0
  unfold maxLen at hcm0
  go_enter Try.func7, Try.ntmps7
  go_wp2_with fail
  refine (merge_any _ x0 _ R_v0.out (by rw [← HL0.out]; omega)).mono ?_
  rintro e W1 ⟨va, rfl, o1, b1⟩
  replace R_v0 := Lib.hid (R_v0.out.below b1)
  have bt1 : Below w.heap.size w W1 := b1
  clear b1
  have R_va := Lib.hid o1.ros2
  clear o1
  obtain ⟨A_va, c_va, b_va, off_va, rfl, hnc_va, hcm_va, -, -⟩ := R_va.out.shape
  obtain ⟨m, h_m⟩ : ∃ n, n = (merged x0).length := ⟨_, rfl⟩
  rw [← h_m] at R_va hnc_va ⊢
  have b_m : m ≤ 8796093022207 := by rw [h_m]; have := merged_len x0; rw [← HL0.out] at this; omega
  have H_m := Lib.hid h_m
  clear h_m
  unfold maxLen at hcm_va
  have hml : m ≤ l0 := by have := merged_len x0; rw [← H_m.out, ← HL0.out] at this; exact this
  have HN := Lib.hid (merged_is x0).1
  go_wp2_with fail
  go_loopg [10] m (fun kx s10 wr => ∃ k : Nat, k ≤ m ∧ s10 = .int .i64 k ∧ m - k ≤ kx ∧ Below W1.heap.size W1 wr)
  case atStart => exact ⟨0, Nat.zero_le _, rfl, by omega, Below.refl _ _⟩
  case round =>
    obtain ⟨k, hk, rfl, hkk, hb⟩ := hrel
    by_cases hlt : k < m
    · obtain ⟨p, q, hx⟩ : ∃ p q, (merged x0)[k]? = some (p, q) := ⟨_, _, List.getElem?_eq_getElem (by rw [← H_m.out]; exact hlt)⟩
      obtain ⟨b, off, rfl, hc0, hc1, hbl⟩ := (R_va.out.below hb).at hx
      have hpq : p < q := HN.out.1 (p, q) (List.mem_of_getElem? hx)
      rcases Nat.eq_zero_or_pos k with hk0 | hk0
      · clear hx
        have hd1 : decide (q ≤ p) = false := decide_eq_false (by omega)
        have hd2 : decide (0 < k) = false := decide_eq_false (by omega)
        clear hk0
        go_wp2_with fail
        go_quiet (fail)
        go_wp2_with fail
        go_roundg (m - (k + 1))
        case measure => omega
        case rel => exact ⟨k + 1, by omega, by go_num, by omega, ⟨hb.os, hb.tape, hb.output, by simp; exact Nat.le_trans hb.size (Nat.le_succ _), fun k hk => (Below.heap_alloc _ _ _ (Nat.lt_of_lt_of_le hk hb.size)).trans (hb.block k hk)⟩⟩
      · obtain ⟨p2, q2, hx2⟩ : ∃ p q, (merged x0)[k - 1]? = some (p, q) := ⟨_, _, List.getElem?_eq_getElem (by rw [← H_m.out]; omega)⟩
        obtain ⟨b2, off2, e2, -, hd1, hbl2⟩ := (R_va.out.below hb).at hx2
        simp only [Option.some.injEq, Addr.mk.injEq, and_true] at e2
        obtain ⟨rfl, rfl⟩ := e2
        have hgap : q2 < p := by
          have h1 := (List.getElem?_eq_some_iff.1 hx2)
          have h2 := (List.getElem?_eq_some_iff.1 hx)
          have h3 := List.pairwise_iff_getElem.1 HN.out.2 (k - 1) k h1.1 h2.1 (by omega)
          rw [h1.2, h2.2] at h3
          exact h3
        clear hx hx2
        have y1' : IntKind.i64.wrap ((k : Int) - 1) = (k : Int) - 1 := IntWalk.i64_in _ (by omega)
        have y2' : (0 : Int) ≤ (k : Int) - 1 := by omega
        have y3' : (k : Int) - 1 < (m : Int) := by omega
        have y5' : ((k : Int) - 1).toNat = k - 1 := by omega
        have y6' : (0 : Int) < (k : Int) := by omega
        have y7' : ¬ (k : Int) < 1 := by omega
        have y8' : (1 : Int) ≤ (k : Int) := by omega
        have hdA : ∀ o, (wr.alloc o).cell? ⟨b, off + (k - 1) * 2 + 1, none⟩ = some (.int .i64 q2) := fun o => (World.cell?_alloc_lt wr _ _ (by exact hbl2)).trans hd1
        have hdA' := hdA (.cells #[.int .i64 p, .int .i64 q] 37)
        clear hdA
        have hd1 : decide (q ≤ p) = false := decide_eq_false (by omega)
        have hd2 : decide (p ≤ q2) = false := decide_eq_false (by omega)
        go_wp2_with fail
        go_quiet (fail)
        go_wp2_with fail
        go_roundg (m - (k + 1))
        case measure => omega
        case rel => exact ⟨k + 1, by omega, by go_num, by omega, ⟨hb.os, hb.tape, hb.output, by simp; exact Nat.le_trans hb.size (Nat.le_succ _), fun k hk => (Below.heap_alloc _ _ _ (Nat.lt_of_lt_of_le hk hb.size)).trans (hb.block k hk)⟩⟩
    · obtain rfl : k = m := by omega
      go_wp2_with fail
      refine (works_any _).mono ?_
      rintro e W5 ⟨rfl, b5⟩
      go_wp2_with fail
      go_ret
      have hbt := bt1.trans (hb.mono bt1.size)
      exact ⟨rfl, hbt.trans (b5.mono hbt.size)⟩

end Go.Proofs.Ytpkdjdofbedncaa

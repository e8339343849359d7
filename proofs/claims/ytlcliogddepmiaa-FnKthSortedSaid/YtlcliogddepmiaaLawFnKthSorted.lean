/-
  What is proved here: the walk of the law FnKthSorted; no other condition.
-/
import Derived.Test.YtlcliogddepmiaaSml
import Derived.Test.YtlcliogddepmiaaSpecSmall
import Derived.Test.YtlcliogddepmiaaWf
import Derived.Test.YtlcliogddepmiaaSame
namespace Go.Proofs.Ytlcliogddepmiaa
open Go.RowKit
set_option linter.unusedVariables false

set_option maxRecDepth 100000 in
set_option maxHeartbeats 2000000 in
theorem walk_FnKthSorted (v0 : Value) (x0 : List Int) (a1 : Int) (w : World) (h0 : Ro w v0 x0) (f0 : ∀ x ∈ x0, (Lit.int .i64 x).wf = true) (n0 : x0.length * 8 ≤ 140737488351232) (f1 : (Lit.int .i64 a1).wf = true) :
    Calls Try.prog 14 #[v0, .int .i64 a1] w fun e w' => e = .returned (.bool true) ∧ Below w.heap.size w w' := by
  have R_v0 := Lib.hid h0
  clear h0 f0
  clear f1
  obtain ⟨A0, c0, b0, off0, rfl, hnc0, hcm0, -, -⟩ := R_v0.out.shape
  obtain ⟨l0, hl0⟩ : ∃ n, n = x0.length := ⟨_, rfl⟩
  rw [← hl0] at R_v0 n0 hnc0 ⊢
  have HL0 := Lib.hid hl0
  clear hl0
  unfold maxLen at hcm0
  go_enter Try.func14, Try.ntmps14
  go_wp2_with fail
  go_loopg [9] l0 (fun kx s9 wr => ∃ k : Nat, k ≤ l0 ∧ s9 = .int .i64 k ∧ l0 - k ≤ kx ∧ wr = w ∧ Hid ((x0.take k).map sml = x0.take k))
  case atStart => exact ⟨0, Nat.zero_le _, rfl, by omega, rfl, by show (x0.take 0).map sml = x0.take 0; simp⟩
  case round =>
    obtain ⟨k, hk, rfl, hkk, rfl, HS⟩ := hrel
    by_cases hlt : k < l0
    · obtain ⟨x, hx⟩ := get_some HL0.out hlt
      obtain ⟨b1, o1, rfl, hc1, -⟩ := R_v0.out.at hx
      have HXK := Lib.hid hx
      clear hx
      by_cases hs : sml x = x
      · go_wp2_with fail
        refine (specSmall_any x _).mono ?_
        rw [hs]
        have HSX := Lib.hid hs
        clear hs
        rintro e w' ⟨rfl, rfl⟩
        go_wp2_with fail
        go_roundg (l0 - (k + 1))
        case measure => omega
        case rel => exact ⟨k + 1, by omega, by go_num, by omega, rfl, (by show (x0.take (k + 1)).map sml = x0.take (k + 1); rw [List.take_add_one, HXK.out, List.map_append, HS.out]; simp [HSX.out])⟩
      · have hne : (x != sml x) = true := by simp; exact fun e => hs e.symm
        obtain ⟨y, hy⟩ : ∃ y, y = sml x := ⟨_, rfl⟩
        rw [← hy] at hne hs
        have HY := Lib.hid hy
        clear hy
        go_wp2_with fail
        refine (specSmall_any x _).mono ?_
        rw [← HY.out]
        rintro e w' ⟨rfl, rfl⟩
        go_wp2_with fail
        go_ret
        exact ⟨rfl, Below.refl _ _⟩
    · have hall : x0.map sml = x0 := by
        have h := HS.out
        rwa [List.take_of_length_le (by rw [← HL0.out]; omega)] at h
      have HALL := Lib.hid hall
      clear hall
      rcases Nat.eq_zero_or_pos l0 with h0 | h0
      · subst h0
        go_wp2_with fail
        refine (kth_any _ x0 a1 _ R_v0.out (by rw [← HL0.out]; omega)).mono ?_
        rw [if_pos HL0.out.symm]
        rintro e W1 ⟨rfl, b1⟩
        go_wp2_with fail
        refine (works_any _).mono ?_
        rintro e W2 ⟨rfl, b2⟩
        go_wp2_with fail
        go_ret
        exact ⟨rfl, b1.trans (b2.mono b1.size)⟩
      · have hn0 : ¬ l0 = 0 := by omega
        have hn1 : ((l0 : Int) == 0) = false := by simp; omega
        obtain ⟨q, hq⟩ : ∃ q : Nat, (q : Int) = a1 % (l0 : Int) := ⟨(a1 % (l0 : Int)).toNat, by have := Int.emod_nonneg a1 (show (l0 : Int) ≠ 0 by omega); omega⟩
        have hqn : q < l0 := by have := Int.emod_lt_of_pos a1 (show (0 : Int) < (l0 : Int) by omega); omega
        have HQ := Lib.hid hq
        clear hq
        obtain ⟨y, hy⟩ : ∃ y, (asc x0)[q]? = some y := ⟨_, List.getElem?_eq_getElem (by rw [asc_len, ← HL0.out]; exact hqn)⟩
        have HK := Lib.hid (show kthOf x0 (a1 % (x0.length : Int)).toNat = y by
          unfold kthOf
          rw [HALL.out, ← HL0.out, ← HQ.out, show ((q : Int)).toNat = q from rfl, List.getD_eq_getElem?_getD, hy]
          rfl)
        have HY := Lib.hid hy
        clear hy
        go_wp2_with fail
        refine (kth_any _ x0 a1 _ R_v0.out (by rw [← HL0.out]; omega)).mono ?_
        rw [if_neg (by rw [← HL0.out]; exact hn0), HK.out]
        rintro e W1 ⟨rfl, b1⟩
        replace R_v0 := Lib.hid (R_v0.out.below b1)
        go_wp2_with fail
        refine (ascending_some _ x0 _ R_v0.out (by rw [← HL0.out]; omega)).mono ?_
        rw [← HL0.out]
        rintro e W2 ⟨g2, c2, rfl, o2, b2⟩
        have hc := (own_cell o2 HY.out).1
        have z0 : (0 : Int) ≤ (q : Int) := by omega
        have z1 : (q : Int) < (l0 : Int) := by omega
        clear o2
        go_wp2_with fail
        refine (specAt_any a1 (l0 : Int) _ (by omega) (by omega)).mono ?_
        rw [← HQ.out]
        rintro e w' ⟨rfl, rfl⟩
        go_wp2_with fail
        go_ret
        exact ⟨by simp, b1.trans (b2.mono b1.size)⟩

end Go.Proofs.Ytlcliogddepmiaa

/-
  What is proved here: the walk of the law FnTurnBack; no other condition.
-/
import Derived.Test.YtgnjncadecelhaaTurn
import Derived.Test.YtgnjncadecelhaaBegin
import Derived.Test.YtgnjncadecelhaaTurnPlain
import Derived.Test.YtgnjncadecelhaaJoin
import Derived.Test.YtgnjncadecelhaaSub
import Derived.Test.YtgnjncadecelhaaSame
namespace Go.Proofs.Ytgnjncadecelhaa
open Go.RowKit
set_option linter.unusedVariables false

set_option maxRecDepth 100000 in
set_option maxHeartbeats 4000000 in
theorem walk_FnTurnBack (v0 : Value) (x0 : List Int) (a1 : Int) (w : World) (h0 : Ro w v0 x0) (f0 : ∀ x ∈ x0, (Lit.int .i64 x).wf = true) (n0 : x0.length * 8 ≤ 140737488351232) (f1 : (Lit.int .i64 a1).wf = true) :
    Calls Try.prog 11 #[v0, .int .i64 a1] w fun e w' => e = .returned (.bool true) ∧ Below w.heap.size w w' := by
  have R_v0 := Lib.hid h0
  clear h0 f0
  clear f1
  have n1 : x0.length ≤ 17592186044416 := by omega
  obtain ⟨q, hq, hqk, hturn⟩ := turn_q x0 a1
  obtain ⟨n, hn⟩ : ∃ n, n = (uni x0).length := ⟨_, rfl⟩
  rw [← hn] at hq hqk
  have hnl : n ≤ 17592186044416 := by rw [hn]; have := uni_len x0; omega
  obtain ⟨T, hT⟩ : ∃ T, T = turn x0 a1 := ⟨_, rfl⟩
  have hTl : T.length = n := by rw [hT, turn_len, hn]
  have HAG := Lib.hid (show turn T a1 = T by rw [hT, turn_again])
  have HTL := Lib.hid hTl
  have HTT := Lib.hid hT
  have HT := Lib.hid (show T = (uni x0).drop q ++ (uni x0).take q by rw [hT, hturn])
  have HN := Lib.hid hn
  have HQ := Lib.hid hqk
  clear hn hturn hqk hT hTl n0
  have HTS : Hid (∀ i, i < n → (T.getD i 0 ≤ T.getD (n - 1) 0 ↔ beg n q ≤ i)) := fun i hi => by
    have h := turned_test (uni_sasc x0) (q := q) (i := i) (by rw [← HN.out]; exact (HQ.out (by omega)).1) (by rw [← HN.out]; exact hi)
    rw [← HN.out, ← HT.out] at h
    exact h
  have HMO : Hid (∀ a b, a ≤ b → b < T.length → T.getD a 0 ≤ T.getD (T.length - 1) 0 → T.getD b 0 ≤ T.getD (T.length - 1) 0) := fun a b hab hb h => by
    rw [HTL.out] at hb h ⊢
    have h1 := (HTS.out a (by omega)).1 h
    exact (HTS.out b hb).2 (by omega)
  go_enter Try.func11, Try.ntmps11
  go_wp2_with fail
  refine (turn_any _ x0 a1 _ R_v0.out n1).mono ?_
  rw [← HTT.out]
  rintro e W1 ⟨u1, rfl, o1, bt1⟩
  replace R_v0 := Lib.hid (R_v0.out.below bt1)
  have hz1 := bt1.size
  have R_u1 := Lib.hid o1.ro
  have ho := o1.2
  rw [HTL.out] at ho
  clear o1
  rcases ho with ⟨rfl, h0⟩ | ⟨g, cap, cur, rfl, -, -, hnc, hcm, -, -⟩
  · subst h0
    go_wp2_with fail
    refine (begin_any _ T _ R_u1.out (by rw [HTL.out]; omega) HMO.out).mono ?_
    rintro e W2 ⟨i, rfl, hi, hf1, hf2, b2⟩
    rw [HTL.out] at hi hf2
    obtain rfl : i = 0 := by omega
    have HEQ := Lib.hid (show T.drop 0 ++ T.take 0 = uni (x0 ++ []) by
      rw [List.append_nil, List.eq_nil_of_length_eq_zero HTL.out, List.eq_nil_of_length_eq_zero (l := uni x0) HN.out.symm]; rfl)
    replace R_v0 := Lib.hid (R_v0.out.below b2)
    replace R_u1 := Lib.hid (R_u1.out.below b2)
    have bt2 : Below w.heap.size w W2 := bt1.trans (b2.mono hz1)
    have hz2 := bt2.size
    clear hf1 hf2 b2 bt1
    have RD := Lib.hid (show Ro W2.drew (.slice none 0 0) (T.drop 0) from R_u1.out)
    have RT := Lib.hid (show Ro W2.drew (.slice none 0 0) (T.take 0) by rw [List.eq_nil_of_length_eq_zero HTL.out]; exact ro_nil _)
    have hlen : (T.drop 0).length + (T.take 0).length ≤ 17592186044416 := by rw [List.length_drop, List.length_take, HTL.out]; omega
    have HLN := Lib.hid hlen
    have hxl : x0.length + ([] : List Int).length ≤ 17592186044416 := by simp; exact n1
    have HXL := Lib.hid hxl
    have HTN := Lib.hid (show T.length ≤ 17592186044416 by rw [HTL.out]; exact hnl)
    clear hlen hxl
    go_wp2_with fail
    go_region_with ((first
      | (go_at_call 25; refine (joined_any _ _ (T.drop 0) (T.take 0) _ RD.out RT.out HLN.out).mono ?_; rintro e W3 ⟨u3, rfl, o3, b3⟩)
      | (go_at_call 17; refine (unite_any _ _ x0 [] _ (Ro.below (w := W2.drew) R_v0.out b3) (ro_nil _) HXL.out).mono ?_; rintro e W4 ⟨u4, rfl, o4, b4⟩)
      | (go_at_call 15; refine (same_yes _ _ _ _ _ o6.ro (Ro.below (w := W2.drew) R_u1.out (((b3.trans (b4.mono b3.size)).trans (b5.mono (Nat.le_trans b3.size b4.size))).trans (b6.mono (Nat.le_trans (Nat.le_trans b3.size b4.size) b5.size)))) HAG.out).mono ?_; rintro e W7 ⟨rfl, b7⟩)
      | (go_at_call 15; refine (same_yes _ _ _ _ _ (o3.ro.below b4) o4.ro HEQ.out).mono ?_; rintro e W5 ⟨rfl, b5⟩)
      | (go_at_call 38; refine (turn_any _ T a1 _ (Ro.below (w := W2.drew) R_u1.out ((b3.trans (b4.mono b3.size)).trans (b5.mono (Nat.le_trans b3.size b4.size)))) HTN.out).mono ?_; rintro e W6 ⟨u6, rfl, o6, b6⟩)
      | (go_at_call 19; refine (works_any _).mono ?_; rintro e W8 ⟨rfl, b8⟩)))
    all_goals
      go_wp2_with fail
      go_ret
      refine ⟨rfl, ?_⟩
      have s3 := b3.size
      have s4 := b4.size
      have s5 := b5.size
      have s6 := b6.size
      have s7 := b7.size
      have c3 : Below w.heap.size w W3 := (Below.drew bt2).trans (b3.mono hz2)
      have c4 : Below w.heap.size w W4 := c3.trans (b4.mono c3.size)
      have c5 : Below w.heap.size w W5 := c4.trans (b5.mono c4.size)
      have c6 : Below w.heap.size w W6 := c5.trans (b6.mono c5.size)
      have c7 : Below w.heap.size w W7 := c6.trans (b7.mono c6.size)
      exact c7.trans (b8.mono c7.size)
  · unfold maxLen at hcm
    go_wp2_with fail
    refine (begin_any _ T _ R_u1.out (by rw [HTL.out]; omega) HMO.out).mono ?_
    rintro e W2 ⟨i, rfl, hi, hf1, hf2, b2⟩
    rw [HTL.out] at hi hf2
    have hib : i = beg n q := by
      have hb : beg n q ≤ n := by unfold beg; split <;> omega
      rcases Nat.lt_trichotomy i (beg n q) with h | h | h
      · have h1 := hf2 i (Nat.le_refl _) (by omega)
        rw [decide_eq_true_iff] at h1
        have h2 := (HTS.out i (by omega)).1 h1
        omega
      · exact h
      · have h1 := hf1 (beg n q) h
        rw [decide_eq_false_iff_not, HTL.out] at h1
        exact absurd ((HTS.out _ (by omega)).2 (Nat.le_refl _)) h1
    have HEQ := Lib.hid (show T.drop i ++ T.take i = uni (x0 ++ []) by
      have h3 := beg_back (u := uni x0) (q := q) (by rw [← HN.out]; exact hq)
      rw [← HN.out, ← HT.out, ← hib] at h3
      rw [h3, List.append_nil])
    replace R_v0 := Lib.hid (R_v0.out.below b2)
    replace R_u1 := Lib.hid (R_u1.out.below b2)
    have bt2 : Below w.heap.size w W2 := bt1.trans (b2.mono hz1)
    have hz2 := bt2.size
    clear hf1 hf2 b2 bt1
    clear hib
    have z0 : (0 : Int) ≤ (i : Int) := by omega
    have z1 : (i : Int) ≤ (n : Int) := by omega
    have z2 : (i : Int) ≤ (cap : Int) := by omega
    have z3 : (n : Int) ≤ (cap : Int) := by omega
    have z4 : ¬ n < i := by omega
    have RD := Lib.hid (show Ro W2.drew _ _ from R_u1.out.dropAt (i := i) hi)
    have RT := Lib.hid (show Ro W2.drew _ _ from R_u1.out.takeAt (i := i) hi)
    rw [Nat.zero_add] at RD
    by_cases hci : cap = i
    · obtain rfl : i = cap := hci.symm
      obtain rfl : i = n := by omega
      rw [if_pos rfl, Nat.sub_self] at RD
      have hlen : (T.drop i).length + (T.take i).length ≤ 17592186044416 := by rw [List.length_drop, List.length_take, HTL.out]; omega
      have HLN := Lib.hid hlen
      have hxl : x0.length + ([] : List Int).length ≤ 17592186044416 := by simp; exact n1
      have HXL := Lib.hid hxl
      have HTN := Lib.hid (show T.length ≤ 17592186044416 by rw [HTL.out]; exact hnl)
      clear hlen hxl
      go_wp2_with fail
      go_region_with ((first
        | (go_at_call 25; refine (joined_any _ _ (T.drop i) (T.take i) _ RD.out RT.out HLN.out).mono ?_; rintro e W3 ⟨u3, rfl, o3, b3⟩)
        | (go_at_call 17; refine (unite_any _ _ x0 [] _ (Ro.below (w := W2.drew) R_v0.out b3) (ro_nil _) HXL.out).mono ?_; rintro e W4 ⟨u4, rfl, o4, b4⟩)
        | (go_at_call 15; refine (same_yes _ _ _ _ _ o6.ro (Ro.below (w := W2.drew) R_u1.out (((b3.trans (b4.mono b3.size)).trans (b5.mono (Nat.le_trans b3.size b4.size))).trans (b6.mono (Nat.le_trans (Nat.le_trans b3.size b4.size) b5.size)))) HAG.out).mono ?_; rintro e W7 ⟨rfl, b7⟩)
        | (go_at_call 15; refine (same_yes _ _ _ _ _ (o3.ro.below b4) o4.ro HEQ.out).mono ?_; rintro e W5 ⟨rfl, b5⟩)
        | (go_at_call 38; refine (turn_any _ T a1 _ (Ro.below (w := W2.drew) R_u1.out ((b3.trans (b4.mono b3.size)).trans (b5.mono (Nat.le_trans b3.size b4.size)))) HTN.out).mono ?_; rintro e W6 ⟨u6, rfl, o6, b6⟩)
        | (go_at_call 19; refine (works_any _).mono ?_; rintro e W8 ⟨rfl, b8⟩)))
      all_goals
        go_wp2_with fail
        go_ret
        refine ⟨rfl, ?_⟩
        have s3 := b3.size
        have s4 := b4.size
        have s5 := b5.size
        have s6 := b6.size
        have s7 := b7.size
        have c3 : Below w.heap.size w W3 := (Below.drew bt2).trans (b3.mono hz2)
        have c4 : Below w.heap.size w W4 := c3.trans (b4.mono c3.size)
        have c5 : Below w.heap.size w W5 := c4.trans (b5.mono c4.size)
        have c6 : Below w.heap.size w W6 := c5.trans (b6.mono c5.size)
        have c7 : Below w.heap.size w W7 := c6.trans (b7.mono c6.size)
        exact c7.trans (b8.mono c7.size)
    · rw [if_neg hci] at RD
      have hlen : (T.drop i).length + (T.take i).length ≤ 17592186044416 := by rw [List.length_drop, List.length_take, HTL.out]; omega
      have HLN := Lib.hid hlen
      have hxl : x0.length + ([] : List Int).length ≤ 17592186044416 := by simp; exact n1
      have HXL := Lib.hid hxl
      have HTN := Lib.hid (show T.length ≤ 17592186044416 by rw [HTL.out]; exact hnl)
      clear hlen hxl
      go_wp2_with fail
      go_region_with ((first
        | (go_at_call 25; refine (joined_any _ _ (T.drop i) (T.take i) _ RD.out RT.out HLN.out).mono ?_; rintro e W3 ⟨u3, rfl, o3, b3⟩)
        | (go_at_call 17; refine (unite_any _ _ x0 [] _ (Ro.below (w := W2.drew) R_v0.out b3) (ro_nil _) HXL.out).mono ?_; rintro e W4 ⟨u4, rfl, o4, b4⟩)
        | (go_at_call 15; refine (same_yes _ _ _ _ _ o6.ro (Ro.below (w := W2.drew) R_u1.out (((b3.trans (b4.mono b3.size)).trans (b5.mono (Nat.le_trans b3.size b4.size))).trans (b6.mono (Nat.le_trans (Nat.le_trans b3.size b4.size) b5.size)))) HAG.out).mono ?_; rintro e W7 ⟨rfl, b7⟩)
        | (go_at_call 15; refine (same_yes _ _ _ _ _ (o3.ro.below b4) o4.ro HEQ.out).mono ?_; rintro e W5 ⟨rfl, b5⟩)
        | (go_at_call 38; refine (turn_any _ T a1 _ (Ro.below (w := W2.drew) R_u1.out ((b3.trans (b4.mono b3.size)).trans (b5.mono (Nat.le_trans b3.size b4.size)))) HTN.out).mono ?_; rintro e W6 ⟨u6, rfl, o6, b6⟩)
        | (go_at_call 19; refine (works_any _).mono ?_; rintro e W8 ⟨rfl, b8⟩)))
      all_goals
        go_wp2_with fail
        go_ret
        refine ⟨rfl, ?_⟩
        have s3 := b3.size
        have s4 := b4.size
        have s5 := b5.size
        have s6 := b6.size
        have s7 := b7.size
        have c3 : Below w.heap.size w W3 := (Below.drew bt2).trans (b3.mono hz2)
        have c4 : Below w.heap.size w W4 := c3.trans (b4.mono c3.size)
        have c5 : Below w.heap.size w W5 := c4.trans (b5.mono c4.size)
        have c6 : Below w.heap.size w W6 := c5.trans (b6.mono c5.size)
        have c7 : Below w.heap.size w W7 := c6.trans (b7.mono c6.size)
        exact c7.trans (b8.mono c7.size)

end Go.Proofs.Ytgnjncadecelhaa

/-
  What is proved here: the walk of the law FnRowsAgain; no other condition.
-/
import Derived.Test.YtiioojnoggcnmaaRowsHelp
import Derived.Test.YtiioojnoggcnmaaRowsPlain
import Derived.Test.YtiioojnoggcnmaaJoin
import Derived.Test.YtiioojnoggcnmaaSame
namespace Go.Proofs.Ytiioojnoggcnmaa
open Go.RowKit
set_option linter.unusedVariables false

set_option maxRecDepth 100000 in
set_option maxHeartbeats 4000000 in
theorem walk_FnRowsAgain (v0 : Value) (x0 : List (Int × Int × Int)) (v1 : Value) (x1 : List Int) (a2 : Int) (w : World) (h0 : Ros3 w v0 x0) (f0 : ∀ x ∈ x0, (Lit.int .i64 x.1).wf = true ∧ (Lit.int .i64 x.2.1).wf = true ∧ (Lit.int .i64 x.2.2).wf = true) (n0 : x0.length * 24 ≤ 140737488351232) (h1 : Ro w v1 x1) (f1 : ∀ x ∈ x1, (Lit.int .i64 x).wf = true) (n1 : x1.length * 8 ≤ 140737488351232) (f2 : (Lit.int .i64 a2).wf = true) :
    Calls Try.prog 7 #[v0, v1, .int .i64 a2] w fun e w' => e = .returned (.bool true) ∧ Below w.heap.size w w' := by
  have R_v0 := Lib.hid h0
  clear h0 f0
  have R_v1 := Lib.hid h1
  clear h1 f1
  clear f2
  obtain ⟨A0, c0, b0, off0, rfl, hnc0, hcm0, -, -⟩ := R_v0.out.shape
  obtain ⟨l0, hl0⟩ : ∃ n, n = x0.length := ⟨_, rfl⟩
  rw [← hl0] at R_v0 n0 hnc0 ⊢
  have HL0 := Lib.hid hl0
  clear hl0
  unfold maxLen at hcm0
  obtain ⟨A1, c1, b1, off1, rfl, hnc1, hcm1, -, -⟩ := R_v1.out.shape
  obtain ⟨l1, hl1⟩ : ∃ n, n = x1.length := ⟨_, rfl⟩
  rw [← hl1] at R_v1 n1 hnc1 ⊢
  have HL1 := Lib.hid hl1
  clear hl1
  unfold maxLen at hcm1
  go_enter Try.func7, Try.ntmps7
  go_wp2_with fail
  refine (sortRows_any _ _ x0 x1 _ R_v0.out R_v1.out (by rw [← HL0.out]; omega) (by rw [← HL1.out]; omega)).mono ?_
  rintro e W1 ⟨u1, rfl, o1, b1⟩
  replace R_v0 := Lib.hid (R_v0.out.below b1)
  replace R_v1 := Lib.hid (R_v1.out.below b1)
  have bt1 : Below w.heap.size w W1 := b1
  clear b1
  have R_u1 := Lib.hid o1.ros3
  clear o1
  obtain ⟨A_u1, c_u1, b_u1, off_u1, rfl, hnc_u1, hcm_u1, -, -⟩ := R_u1.out.shape
  obtain ⟨m, h_m⟩ : ∃ n, n = (rsort x0 x1).length := ⟨_, rfl⟩
  rw [← h_m] at R_u1 hnc_u1 ⊢
  have b_m : m ≤ 5864062014805 := by rw [h_m]; rw [rsort_len, ← HL0.out]; omega
  have H_m := Lib.hid h_m
  clear h_m
  unfold maxLen at hcm_u1
  obtain rfl : m = l0 := by have h := H_m.out; rw [rsort_len, ← HL0.out] at h; exact h
  rcases Nat.eq_zero_or_pos l1 with h0 | h0
  · subst h0
    have hx : rsort x0 x1 = x0 := by rw [List.eq_nil_of_length_eq_zero HL1.out.symm]; rfl
    have HX := Lib.hid hx
    clear hx
    go_wp2_with fail
    refine (sameRows_yes _ _ _ _ _ R_u1.out R_v0.out HX.out).mono ?_
    rintro e W2 ⟨rfl, b2⟩
    have bt2 : Below w.heap.size w W2 := bt1.trans (b2.mono bt1.size)
    clear b2
    go_wp2_with fail
    refine (works_any _).mono ?_
    rintro e W3 ⟨rfl, b3⟩
    go_wp2_with fail
    go_ret
    exact ⟨rfl, bt2.trans (b3.mono bt2.size)⟩
  · have hpos : (0 : Int) < (l1 : Int) := by omega
    have hne0 : ¬ (l1 : Int) = 0 := by omega
    have hne1 : ¬ l1 = 0 := by omega
    obtain ⟨q, hq⟩ : ∃ q : Nat, (q : Int) = a2 % (l1 : Int) := ⟨(a2 % (l1 : Int)).toNat, by have := Int.emod_nonneg a2 (show (l1 : Int) ≠ 0 by omega); omega⟩
    have hql : q < l1 := by have := Int.emod_lt_of_pos a2 hpos; omega
    obtain ⟨z, hz⟩ := get_some HL1.out hql
    obtain ⟨b, off, rfl, hc, hbl⟩ := R_v1.out.at hz
    have HMEM := Lib.hid (List.mem_of_getElem? hz)
    have HQ := Lib.hid hq
    clear hz hq
    have z0 : (0 : Int) ≤ (q : Int) := by omega
    have z1 : (q : Int) < (l1 : Int) := by omega
    go_wp2_with fail
    refine (specAt_any a2 (l1 : Int) _ (by omega) (by omega)).mono ?_
    rw [← HQ.out]
    rintro e w' ⟨rfl, rfl⟩
    have R_s : Hid (Ro (W1.alloc (.cells #[.int .i64 z] 3)) (.slice (some ⟨W1.heap.size, 0, none⟩) 1 1) [z]) :=
      ⟨_, _, W1.heap.size, 0, rfl, Nat.le_refl _, by unfold maxLen; omega, fun _ => ⟨rfl, by simp⟩, fun k x hx => by
        match k, hx with
        | 0, hx => simp at hx; subst hx; simp [go_sem]⟩
    have hal : Below W1.heap.size W1 (W1.alloc (.cells #[.int .i64 z] 3)) := (Below.refl _ _).alloc (Nat.le_refl _) _
    replace R_v0 := Lib.hid (R_v0.out.below hal)
    replace R_v1 := Lib.hid (R_v1.out.below hal)
    replace R_u1 := Lib.hid (R_u1.out.below hal)
    have bt2 : Below w.heap.size w (W1.alloc (.cells #[.int .i64 z] 3)) := bt1.trans (hal.mono bt1.size)
    clear bt1 hal
    go_wp2_with fail
    refine (joined_any _ _ [z] x1 _ R_s.out R_v1.out (by simp only [List.length_singleton]; rw [← HL1.out]; omega)).mono ?_
    rintro e W3 ⟨u3, rfl, o3, b3⟩
    replace R_v0 := Lib.hid (R_v0.out.below b3)
    replace R_v1 := Lib.hid (R_v1.out.below b3)
    replace R_u1 := Lib.hid (R_u1.out.below b3)
    replace R_s := Lib.hid (R_s.out.below b3)
    have bt3 : Below w.heap.size w W3 := bt2.trans (b3.mono bt2.size)
    clear bt2
    clear b3
    have R_u3 := Lib.hid o3.ro
    clear o3
    go_wp2_with fail
    refine (sortRows_any _ _ x0 ([z] ++ x1) _ R_v0.out R_u3.out (by rw [← HL0.out]; omega) (by rw [List.length_append, List.length_singleton, ← HL1.out]; omega)).mono ?_
    rintro e W4 ⟨u4, rfl, o4, b4⟩
    replace R_v0 := Lib.hid (R_v0.out.below b4)
    replace R_v1 := Lib.hid (R_v1.out.below b4)
    replace R_u1 := Lib.hid (R_u1.out.below b4)
    replace R_s := Lib.hid (R_s.out.below b4)
    replace R_u3 := Lib.hid (R_u3.out.below b4)
    have bt4 : Below w.heap.size w W4 := bt3.trans (b4.mono bt3.size)
    clear bt3
    clear b4
    have R_u4 := Lib.hid o4.ros3
    clear o4
    go_wp2_with fail
    refine (sameRows_yes _ _ _ _ _ R_u4.out R_u1.out (rsort_ahead x0 HMEM.out)).mono ?_
    rintro e W5 ⟨rfl, b5⟩
    replace R_v0 := Lib.hid (R_v0.out.below b5)
    replace R_v1 := Lib.hid (R_v1.out.below b5)
    replace R_u1 := Lib.hid (R_u1.out.below b5)
    replace R_s := Lib.hid (R_s.out.below b5)
    replace R_u3 := Lib.hid (R_u3.out.below b5)
    replace R_u4 := Lib.hid (R_u4.out.below b5)
    have bt5 : Below w.heap.size w W5 := bt4.trans (b5.mono bt4.size)
    clear bt4
    clear b5
    go_wp2_with fail
    refine (sortRows_any _ _ (rsort x0 x1) x1 _ R_u1.out R_v1.out (by rw [rsort_len, ← HL0.out]; omega) (by rw [← HL1.out]; omega)).mono ?_
    rintro e W6 ⟨u5, rfl, o6, b6⟩
    replace R_v0 := Lib.hid (R_v0.out.below b6)
    replace R_v1 := Lib.hid (R_v1.out.below b6)
    replace R_u1 := Lib.hid (R_u1.out.below b6)
    replace R_s := Lib.hid (R_s.out.below b6)
    replace R_u3 := Lib.hid (R_u3.out.below b6)
    replace R_u4 := Lib.hid (R_u4.out.below b6)
    have bt6 : Below w.heap.size w W6 := bt5.trans (b6.mono bt5.size)
    clear bt5
    clear b6
    have R_u5 := Lib.hid o6.ros3
    clear o6
    go_wp2_with fail
    refine (sameRows_yes _ _ _ _ _ R_u5.out R_u1.out (rsort_again x0 x1)).mono ?_
    rintro e W7 ⟨rfl, b7⟩
    replace R_v0 := Lib.hid (R_v0.out.below b7)
    replace R_v1 := Lib.hid (R_v1.out.below b7)
    replace R_u1 := Lib.hid (R_u1.out.below b7)
    replace R_s := Lib.hid (R_s.out.below b7)
    replace R_u3 := Lib.hid (R_u3.out.below b7)
    replace R_u4 := Lib.hid (R_u4.out.below b7)
    replace R_u5 := Lib.hid (R_u5.out.below b7)
    have bt7 : Below w.heap.size w W7 := bt6.trans (b7.mono bt6.size)
    clear bt6
    clear b7
    go_wp2_with fail
    refine (works_any _).mono ?_
    rintro e W8 ⟨rfl, b8⟩
    replace R_v0 := Lib.hid (R_v0.out.below b8)
    replace R_v1 := Lib.hid (R_v1.out.below b8)
    replace R_u1 := Lib.hid (R_u1.out.below b8)
    replace R_s := Lib.hid (R_s.out.below b8)
    replace R_u3 := Lib.hid (R_u3.out.below b8)
    replace R_u4 := Lib.hid (R_u4.out.below b8)
    replace R_u5 := Lib.hid (R_u5.out.below b8)
    have bt8 : Below w.heap.size w W8 := bt7.trans (b8.mono bt7.size)
    clear bt7
    clear b8
    go_wp2_with fail
    go_ret
    exact ⟨rfl, bt8⟩

end Go.Proofs.Ytiioojnoggcnmaa

/-
  What is proved here: the walks of the laws on Root: each returns true, for every input, and changes nothing that was there.
-/
import Derived.Test.YtbgimajgbgfomaaRoot
namespace Go.Proofs.Ytbgimajgbgfomaa
open Go.RowKit
set_option linter.unusedVariables false

set_option maxHeartbeats 1000000 in
theorem walk_FnExactRoot (a0 a1 : Int) (w : World) (w0 : (Lit.int .i64 a0).wf = true) (w1 : (Lit.int .i64 a1).wf = true) :
    Calls Try.prog 6 #[.int .i64 a0, .int .i64 a1] w fun e w' => e = .returned (.bool true) ∧ Below w.heap.size w w' := by
  obtain ⟨m, hm⟩ := Int.eq_ofNat_of_zero_le (show 0 ≤ a0 % 1099511627776 by omega)
  obtain ⟨e, he⟩ := Int.eq_ofNat_of_zero_le (show 0 ≤ a1 % 4 + 2 by omega)
  have HM := Lib.hid hm
  have HE := Lib.hid he
  clear hm he w0 w1
  go_enter Try.func6, Try.ntmps6
  go_wp2_with fail
  refine (specRoot_any _ _ m e _ HM.out HE.out).mono ?_
  rintro o w' ⟨R, rfl, hR, rfl⟩
  have HR := Lib.hid hR
  clear hR
  go_wp2_with fail
  refine (root_any _ _ m e _ HM.out HE.out).mono ?_
  rintro o w' ⟨S, rfl, hS, hb⟩
  obtain rfl := root_unique HR.out hS
  clear hS
  go_wp2_with fail
  go_ret
  exact ⟨rfl, hb⟩

set_option maxHeartbeats 1000000 in
theorem walk_FnRootBounds (a0 a1 : Int) (w : World) (w0 : (Lit.int .i64 a0).wf = true) (w1 : (Lit.int .i64 a1).wf = true) :
    Calls Try.prog 7 #[.int .i64 a0, .int .i64 a1] w fun e w' => e = .returned (.bool true) ∧ Below w.heap.size w w' := by
  obtain ⟨m, hm⟩ := Int.eq_ofNat_of_zero_le (show 0 ≤ a0 % 1099511627776 by omega)
  obtain ⟨e, he⟩ := Int.eq_ofNat_of_zero_le (show 0 ≤ a1 % 4 + 2 by omega)
  have hm2 : m < 1099511627776 := by omega
  have he2 : 2 ≤ e := by omega
  have he5 : e ≤ 5 := by omega
  have HM := Lib.hid hm
  have HE := Lib.hid he
  clear hm he w0 w1
  go_enter Try.func7, Try.ntmps7
  go_wp2_with fail
  refine (root_any _ _ m e _ HM.out HE.out).mono ?_
  rintro o w' ⟨R, rfl, hR, hb⟩
  have hR3 := hR.2.2
  have HR := Lib.hid hR
  clear hR
  go_wp2_with fail
  refine (specAt_any _ _ _ (by omega) (by omega)).mono ?_
  rintro o w2 ⟨rfl, rfl⟩
  rw [show a1 % 4 = (e : Int) - 2 from by have := HE.out; omega]
  go_wp2_with fail
  refine (specAt_any _ _ _ (by omega) (by omega)).mono ?_
  rintro o w3 ⟨rfl, rfl⟩
  rw [HM.out]
  go_wp2_with fail
  refine (power_any _ _ R e _ rfl rfl (by omega) (by omega)).mono ?_
  rintro o w4 ⟨v, rfl, hv, rfl⟩
  have hle := power_le hv hm2 HR.out.1
  clear hv
  go_wp2_with fail
  refine (power_any _ _ (R + 1) e _ (by omega) rfl (by omega) (by omega)).mono ?_
  rintro o w5 ⟨u, rfl, hu, rfl⟩
  have hlt := power_gt hu hm2 HR.out.2.1
  clear hu
  go_wp2_with fail
  go_ret
  exact ⟨by simp, hb⟩

theorem root_self {r e : Nat} (he : 2 ≤ e) (hp : r ^ e < 1099511627776) : IsRoot (r ^ e) e r :=
  ⟨Nat.le_refl _, Nat.pow_lt_pow_left (by omega) (by omega), small_of_root he hp (Nat.le_refl _)⟩
theorem root_before {r e : Nat} (he : 2 ≤ e) (hr : 1 ≤ r) (hp : r ^ e < 1099511627776) : IsRoot (r ^ e - 1) e (r - 1) := by
  have h1 : (r - 1) ^ e < r ^ e := Nat.pow_lt_pow_left (by omega) (by omega)
  have h2 : 0 < r ^ e := Nat.pow_pos (by omega)
  refine ⟨by omega, by rw [show r - 1 + 1 = r by omega]; omega, ?_⟩
  have := small_of_root he hp (Nat.le_refl _)
  omega
theorem power_small {r e v : Nat} (h : IsPower r e v) (hv : v < 1099511627776) : v = r ^ e := by
  rcases h.2 with h1 | h1
  · exact h1
  · omega
theorem pow200 {r e : Nat} (hr : r ≤ 200) (he : e ≤ 5) : r ^ e < 1099511627776 := by
  rcases Nat.eq_zero_or_pos r with h | h
  · subst h
    rcases Nat.eq_zero_or_pos e with h | h
    · subst h; decide
    · rw [Nat.zero_pow h]; decide
  · have h1 : r ^ e ≤ r ^ 5 := Nat.pow_le_pow_right h he
    have h2 : r ^ 5 ≤ 200 ^ 5 := Nat.pow_le_pow_left hr 5
    have h3 : 200 ^ 5 = 320000000000 := by decide
    omega

set_option maxHeartbeats 1000000 in
theorem rootPower_end (a1 : Int) (e r p : Nat) (he : a1 % 4 + 2 = e) (hr : 1 ≤ r) (hp : p = r ^ e) (hs : p < 1099511627776) (W : World) :
    (Calls Try.prog 24 #[.int .i64 (p : Int), .int .i64 a1] W fun o w' => o = .returned (.int .i64 (r : Int)) ∧ Below W.heap.size W w') ∧
    (Calls Try.prog 24 #[.int .i64 ((p : Int) - 1), .int .i64 a1] W fun o w' => o = .returned (.int .i64 ((r : Int) - 1)) ∧ Below W.heap.size W w') := by
  have he2 : 2 ≤ e := by omega
  subst hp
  have hpos : 0 < r ^ e := Nat.pow_pos (by omega)
  constructor
  · refine (root_any _ _ (r ^ e) e W (by omega) he).mono ?_
    rintro o w' ⟨R, rfl, hR, hb⟩
    obtain rfl := root_unique hR (root_self he2 hs)
    exact ⟨rfl, hb⟩
  · refine (root_any _ _ (r ^ e - 1) e W (by omega) he).mono ?_
    rintro o w' ⟨R, rfl, hR, hb⟩
    obtain rfl := root_unique hR (root_before he2 hr hs)
    exact ⟨ret_int (by omega), hb⟩

set_option maxHeartbeats 1000000 in
theorem walk_FnRootPower (a0 a1 : Int) (w : World) (w0 : (Lit.int .i64 a0).wf = true) (w1 : (Lit.int .i64 a1).wf = true) :
    Calls Try.prog 8 #[.int .i64 a0, .int .i64 a1] w fun e w' => e = .returned (.bool true) ∧ Below w.heap.size w w' := by
  obtain ⟨r, hm⟩ := Int.eq_ofNat_of_zero_le (show 0 ≤ a0 % 1048576 by omega)
  obtain ⟨e, he⟩ := Int.eq_ofNat_of_zero_le (show 0 ≤ a1 % 4 + 2 by omega)
  have hm2 : r < 1048576 := by omega
  have he2 : 2 ≤ e := by omega
  have he5 : e ≤ 5 := by omega
  have HM := Lib.hid hm
  have HE := Lib.hid he
  clear hm he w0 w1
  go_enter Try.func8, Try.ntmps8
  go_wp2_with fail
  refine (specAt_any _ _ _ (by omega) (by omega)).mono ?_
  rintro o w2 ⟨rfl, rfl⟩
  rw [show a1 % 4 = (e : Int) - 2 from by have := HE.out; omega]
  go_wp2_with fail
  refine (specAt_any _ _ _ (by omega) (by omega)).mono ?_
  rintro o w3 ⟨rfl, rfl⟩
  rw [HM.out]
  go_wp2_with fail
  refine (power_any _ _ (1 + r) e _ (by omega) rfl (by omega) (by omega)).mono ?_
  rintro o w4 ⟨v, rfl, hv, rfl⟩
  obtain ⟨vi, hvi⟩ : ∃ vi : Int, vi = v := ⟨_, rfl⟩
  rw [← hvi]
  have HVI := Lib.hid hvi
  have hv0 : 0 ≤ vi := by omega
  have hv9 : vi ≤ 2305843009213693952 := by have := hv.1; omega
  clear hvi
  by_cases hbig : vi < 1099511627776
  · have HV := Lib.hid (power_small hv (by have := HVI.out; omega))
    clear hv
    go_wp2_with fail
    have hvi := HVI.out
    subst hvi
    have hbig : v < 1099511627776 := by omega
    rw [show (1 : Int) + (r : Int) = ((1 + r : Nat) : Int) by omega]
    refine (rootPower_end a1 e (1 + r) v HE.out (by omega) HV.out hbig _).1.mono ?_
    rintro o w5 ⟨rfl, hb5⟩
    go_wp2_with fail
    refine (rootPower_end a1 e (1 + r) v HE.out (by omega) HV.out hbig _).2.mono ?_
    rintro o w6 ⟨rfl, hb6⟩
    go_wp2_with fail
    go_ret
    exact ⟨by simp, hb5.trans (hb6.mono hb5.size)⟩
  · clear hv
    go_wp2_with fail
    refine (power_any _ _ (1 + (1 + r) % 200) e _ (by omega) rfl (by omega) (by omega)).mono ?_
    rintro o w4 ⟨u, rfl, hu, rfl⟩
    have hsm : u < 1099511627776 := by
      have h2 : (1 + (1 + r) % 200) ^ e < 1099511627776 := pow200 (by omega) he5
      rcases hu.2 with h1 | h1 <;> omega
    have HV := Lib.hid (power_small hu hsm)
    clear hu
    go_wp2_with fail
    rw [show (1 : Int) + (1 + (r : Int)) % 200 = ((1 + (1 + r) % 200 : Nat) : Int) by omega]
    refine (rootPower_end a1 e (1 + (1 + r) % 200) u HE.out (by omega) HV.out hsm _).1.mono ?_
    rintro o w5 ⟨rfl, hb5⟩
    go_wp2_with fail
    refine (rootPower_end a1 e (1 + (1 + r) % 200) u HE.out (by omega) HV.out hsm _).2.mono ?_
    rintro o w6 ⟨rfl, hb6⟩
    go_wp2_with fail
    go_ret
    exact ⟨by simp, hb5.trans (hb6.mono hb5.size)⟩

theorem root_up {m n e R S : Nat} (hmn : m ≤ n) (hR : IsRoot m e R) (hS : IsRoot n e S) : R ≤ S := by
  rcases Nat.lt_or_ge S R with g | g
  · have : (S + 1) ^ e ≤ R ^ e := Nat.pow_le_pow_left (by omega) e
    have h1 := hR.1; have h2 := hS.2.1
    omega
  · exact g
theorem root_exp {m e R S : Nat} (hR : IsRoot m e R) (hS : IsRoot m (e + 1) S) : S ≤ R := by
  rcases Nat.lt_or_ge R S with g | g
  · have h3 : (R + 1) ^ e ≤ S ^ e := Nat.pow_le_pow_left (by omega) e
    have h4 : S ^ e ≤ S ^ (e + 1) := Nat.pow_le_pow_right (by omega) (by omega)
    have h1 := hR.2.1; have h2 := hS.1
    omega
  · exact g
theorem root_twice {m R S T : Nat} (hR : IsRoot m 2 R) (hS : IsRoot R 2 S) (hT : IsRoot m 4 T) : S = T := by
  refine root_unique (e := 4) (m := m) ⟨?_, ?_, hS.2.2⟩ hT
  · have h1 : (S ^ 2) ^ 2 ≤ R ^ 2 := Nat.pow_le_pow_left hS.1 2
    rw [← Nat.pow_mul] at h1
    exact Nat.le_trans h1 hR.1
  · have h1 : (R + 1) ^ 2 ≤ ((S + 1) ^ 2) ^ 2 := Nat.pow_le_pow_left hS.2.1 2
    rw [← Nat.pow_mul] at h1
    exact Nat.lt_of_lt_of_le hR.2.1 h1

theorem root_const {R m e : Nat} (n k : Int) (hn : n % 1099511627776 = m) (hk : k % 4 + 2 = e) (hR : IsRoot m e R) (W : World) :
    Calls Try.prog 24 #[.int .i64 n, .int .i64 k] W fun o w' => o = .returned (.int .i64 (R : Int)) ∧ Below W.heap.size W w' := by
  refine (root_any n k m e W hn hk).mono ?_
  rintro o w' ⟨S, rfl, hS, hb⟩
  obtain rfl := root_unique hS hR
  exact ⟨rfl, hb⟩

/-- Every number has its root. -/
theorem root_ex (m e : Nat) (he : 2 ≤ e) (hm : m < 1099511627776) : ∃ R, IsRoot m e R := by
  have hex : ∀ d R, R ^ e ≤ m → R + d = 1048576 → ∃ S, IsRoot m e S := by
    intro d
    induction d with
    | zero => intro R hR h; have := small_of_root he hm hR; omega
    | succ d ih =>
      intro R hR h
      by_cases h2 : (R + 1) ^ e ≤ m
      · exact ih (R + 1) h2 (by omega)
      · exact ⟨R, hR, by omega, by omega⟩
  exact hex 1048576 0 (by rw [Nat.zero_pow (by omega)]; omega) (by omega)

set_option maxHeartbeats 1000000 in
theorem walk_FnRootTwice (a0 : Int) (w : World) (w0 : (Lit.int .i64 a0).wf = true) :
    Calls Try.prog 10 #[.int .i64 a0] w fun e w' => e = .returned (.bool true) ∧ Below w.heap.size w w' := by
  obtain ⟨m, hm⟩ := Int.eq_ofNat_of_zero_le (show 0 ≤ a0 % 1099511627776 by omega)
  have hm2 : m < 1099511627776 := by omega
  have HM := Lib.hid hm
  clear hm w0
  obtain ⟨R, hR⟩ := root_ex m 2 (by omega) hm2
  obtain ⟨S, hS⟩ := root_ex R 2 (by omega) (by have := hR.2.2; omega)
  obtain ⟨T, hT⟩ := root_ex m 4 (by omega) hm2
  obtain rfl := root_twice hR hS hT
  have H1 := Lib.hid hR
  have H2 := Lib.hid hS
  have H3 := Lib.hid hT
  clear hR hS hT
  go_enter Try.func10, Try.ntmps10
  go_wp2_with fail
  refine (root_const _ _ HM.out (by omega) H1.out _).mono ?_
  rintro o w1 ⟨rfl, hb1⟩
  go_wp2_with fail
  refine (root_const _ _ (m := R) (by have := H1.out.2.2; omega) (by omega) H2.out _).mono ?_
  rintro o w2 ⟨rfl, hb2⟩
  go_wp2_with fail
  refine (root_const _ _ HM.out (by omega) H3.out _).mono ?_
  rintro o w3 ⟨rfl, hb3⟩
  go_wp2_with fail
  refine (root_const (R := 2) (m := 16) (e := 4) _ _ (by omega) (by omega) ⟨by decide, by decide, by decide⟩ _).mono ?_
  rintro o w4 ⟨rfl, hb4⟩
  go_wp2_with fail
  go_ret
  exact ⟨by simp, ((hb1.trans (hb2.mono hb1.size)).trans (hb3.mono (Nat.le_trans hb1.size hb2.size))).trans (hb4.mono (Nat.le_trans (Nat.le_trans hb1.size hb2.size) hb3.size))⟩

set_option maxHeartbeats 1000000 in
theorem walk_FnRootRises (a0 a1 a2 : Int) (w : World) (w0 : (Lit.int .i64 a0).wf = true) (w1 : (Lit.int .i64 a1).wf = true) (w2 : (Lit.int .i64 a2).wf = true) :
    Calls Try.prog 9 #[.int .i64 a0, .int .i64 a1, .int .i64 a2] w fun e w' => e = .returned (.bool true) ∧ Below w.heap.size w w' := by
  obtain ⟨n, hn⟩ := Int.eq_ofNat_of_zero_le (show 0 ≤ a0 % 1099511627776 by omega)
  obtain ⟨m, hm⟩ := Int.eq_ofNat_of_zero_le (show 0 ≤ a1 % 1099511627776 by omega)
  obtain ⟨k, hk⟩ := Int.eq_ofNat_of_zero_le (show 0 ≤ a2 % 3 by omega)
  have hn2 : n < 1099511627776 := by omega
  have hm2 : m < 1099511627776 := by omega
  have hk2 : k < 3 := by omega
  have HN := Lib.hid hn
  have HM := Lib.hid hm
  have HK := Lib.hid hk
  clear hn hm hk w0 w1 w2
  obtain ⟨R1, h1⟩ := root_ex (min n m) (k + 2) (by omega) (by omega)
  obtain ⟨R2, h2⟩ := root_ex (max n m) (k + 2) (by omega) (by omega)
  obtain ⟨R3, h3⟩ := root_ex n (k + 2 + 1) (by omega) (by omega)
  obtain ⟨R4, h4⟩ := root_ex n (k + 2) (by omega) (by omega)
  have l12 : R1 ≤ R2 := root_up (by omega) h1 h2
  have l34 : R3 ≤ R4 := root_exp h4 h3
  have H1 := Lib.hid h1
  have H2 := Lib.hid h2
  have H3 := Lib.hid h3
  have H4 := Lib.hid h4
  clear h1 h2 h3 h4
  go_enter Try.func9, Try.ntmps9
  go_wp2_with fail
  refine (specAt_any _ _ _ (by omega) (by omega)).mono ?_
  rintro o v1 ⟨rfl, rfl⟩
  rw [HN.out]
  go_wp2_with fail
  refine (specAt_any _ _ _ (by omega) (by omega)).mono ?_
  rintro o v2 ⟨rfl, rfl⟩
  rw [HM.out]
  go_wp2_with fail
  refine (specAt_any _ _ _ (by omega) (by omega)).mono ?_
  rintro o v3 ⟨rfl, rfl⟩
  rw [HK.out]
  have fin : ∀ w1 w2 w3 w4 w5 : World, Below w.heap.size w w1 → Below w1.heap.size w1 w2 → Below w2.heap.size w2 w3 → Below w3.heap.size w3 w4 → Below w4.heap.size w4 w5 → Below w.heap.size w w5 := fun w1 w2 w3 w4 w5 a b c d e =>
    (((a.trans (b.mono a.size)).trans (c.mono (Nat.le_trans a.size b.size))).trans (d.mono (Nat.le_trans (Nat.le_trans a.size b.size) c.size))).trans (e.mono (Nat.le_trans (Nat.le_trans (Nat.le_trans a.size b.size) c.size) d.size))
  have FIN := Lib.hid fin
  clear fin
  rcases Nat.lt_trichotomy n m with hc | hc | hc
  rotate_left
  · subst hc
    go_wp2_with fail
    refine (root_const _ _ (m := min n n) (e := k + 2) (by omega) (by omega) H1.out _).mono ?_
    rintro o v4 ⟨rfl, hb1⟩
    go_wp2_with fail
    refine (root_const _ _ (m := max n n) (e := k + 2) (by omega) (by omega) H2.out _).mono ?_
    rintro o v5 ⟨rfl, hb2⟩
    go_wp2_with fail
    refine (root_const _ _ (m := n) (e := k + 2 + 1) (by omega) (by omega) H3.out _).mono ?_
    rintro o v6 ⟨rfl, hb3⟩
    go_wp2_with fail
    refine (root_const _ _ (m := n) (e := k + 2) (by omega) (by omega) H4.out _).mono ?_
    rintro o v7 ⟨rfl, hb4⟩
    go_wp2_with fail
    refine (root_const (R := 1) (m := 1) (e := 2) _ _ (by omega) (by omega) ⟨by decide, by decide, by decide⟩ _).mono ?_
    rintro o v8 ⟨rfl, hb5⟩
    go_wp2_with fail
    go_ret
    exact ⟨by simp, FIN.out _ _ _ _ _ hb1 hb2 hb3 hb4 hb5⟩
  all_goals
    go_wp2_with fail
    refine (root_const _ _ (m := min n m) (e := k + 2) (by omega) (by omega) H1.out _).mono ?_
    rintro o v4 ⟨rfl, hb1⟩
    go_wp2_with fail
    refine (root_const _ _ (m := max n m) (e := k + 2) (by omega) (by omega) H2.out _).mono ?_
    rintro o v5 ⟨rfl, hb2⟩
    go_wp2_with fail
    refine (root_const _ _ (m := n) (e := k + 2 + 1) (by omega) (by omega) H3.out _).mono ?_
    rintro o v6 ⟨rfl, hb3⟩
    go_wp2_with fail
    refine (root_const _ _ (m := n) (e := k + 2) (by omega) (by omega) H4.out _).mono ?_
    rintro o v7 ⟨rfl, hb4⟩
    go_wp2_with fail
    refine (root_const (R := 1) (m := 1) (e := 2) _ _ (by omega) (by omega) ⟨by decide, by decide, by decide⟩ _).mono ?_
    rintro o v8 ⟨rfl, hb5⟩
    go_wp2_with fail
    go_ret
    exact ⟨by simp, FIN.out _ _ _ _ _ hb1 hb2 hb3 hb4 hb5⟩

end Go.Proofs.Ytbgimajgbgfomaa

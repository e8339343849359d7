/-
  What is proved here: contracts of Root (both packages), Power and Root's function value; for every number and exponent.
-/
import Derived.Test.YtbgimajgbgfomaaBase
namespace Go.Proofs.Ytbgimajgbgfomaa
open Go.RowKit
set_option linter.unusedVariables false

theorem enters_root1 : ∀ args w, (callFunc 37 args).run Try.prog w = .ok (.enter 37 args) w := enters_of Try.func37 (by kernel_rfl) rfl

theorem pow_step (q r e j : Nat) (hj : 1 ≤ j) (hje : j ≤ e) (h : q = (r + 1) ^ (e - j)) : q * (r + 1) = (r + 1) ^ (e - (j - 1)) := by
  rw [h, ← Nat.pow_succ]; congr 1; omega

theorem pow_far (q r e j n : Nat) (hje : j ≤ e) (h : q = (r + 1) ^ (e - j)) (hq : n < q) : n < (r + 1) ^ e := by
  have : (r + 1) ^ (e - j) ≤ (r + 1) ^ e := Nat.pow_le_pow_right (by omega) (by omega)
  omega

theorem mul_small (q r : Nat) (hq : q ≤ 1099511627776) (hr : r < 1048576) : q * (r + 1) ≤ 1152921504606846976 := by
  have := Nat.mul_le_mul hq (show r + 1 ≤ 1048576 by omega); omega

set_option maxHeartbeats 1000000 in
theorem root1_any (r n e : Nat) (k : Int) (bk bn : Nat) (w : World) (hr : r < 1048576) (hn : n < 1099511627776) (hke : k % 4 + 2 = e)
    (hk : w.cell? ⟨bk, 0, none⟩ = some (.int .i64 k)) (hcn : w.cell? ⟨bn, 0, none⟩ = some (.int .i64 (n : Int))) :
    Calls Try.prog 37 #[.int .i64 r, .pointer (some ⟨bk, 0, none⟩), .pointer (some ⟨bn, 0, none⟩)] w fun o w' => o = .returned (.bool (decide (n < (r + 1) ^ e))) ∧ w = w' := by
  have he : 2 ≤ e := by omega
  have he5 : e ≤ 5 := by omega
  have HE := Lib.hid hke
  clear hke
  go_enter Try.func37, Try.ntmps37
  go_wp2_with fail
  refine (at_any _ _ _ (by omega) (by omega)).mono ?_
  rintro o w' ⟨rfl, rfl⟩
  rw [show k % 4 = (e : Int) - 2 from by have := HE.out; omega]
  go_wp2_with fail
  go_loopg [5, 6] e (fun kx s5 s6 wr => ∃ (j q : Nat), s5 = .int .i64 q ∧ s6 = .int .i64 j ∧ j ≤ e ∧ j ≤ kx ∧ 1 ≤ q ∧ q ≤ 1152921504606846976 ∧ wr = w ∧ Hid (q = (r + 1) ^ (e - j)))
  case atStart => exact ⟨e, 1, rfl, rfl, Nat.le_refl _, Nat.le_refl _, by omega, by omega, rfl, (by simp : 1 = (r + 1) ^ (e - e))⟩
  case round =>
    obtain ⟨j, q, rfl, rfl, hj, hjk, hq1, hq2, rfl, HQ⟩ := hrel
    by_cases hj0 : 1 ≤ j
    · by_cases hqn : q ≤ n
      · have hms := mul_small q r (by omega) hr
        have hms2 : (q : Int) * ((r : Int) + 1) ≤ 1152921504606846976 := by rw [show (q : Int) * ((r : Int) + 1) = ((q * (r + 1) : Nat) : Int) by simp]; omega
        have hms3 : 0 ≤ (q : Int) * ((r : Int) + 1) := Int.mul_nonneg (by omega) (by omega)
        go_wp2_with fail
        go_roundg (j - 1)
        case measure => omega
        case rel => exact ⟨j - 1, q * (r + 1), by go_num, by go_num, by omega, by omega, Nat.mul_pos hq1 (by omega), hms, rfl, pow_step q r e j hj0 hj HQ.out⟩
      · go_wp2_with fail
        go_ret
        have := pow_far q r e j n hj HQ.out (by omega)
        exact ⟨by simp [this]; omega, rfl⟩
    · obtain rfl : j = 0 := by omega
      go_wp2_with fail
      go_ret
      have := HQ.out
      exact ⟨by rw [Nat.sub_zero] at this; rw [← this]; simp, rfl⟩

/-- R is the root: its power is at most m, and that of the next number is greater. -/
def IsRoot (m e R : Nat) : Prop := R ^ e ≤ m ∧ m < (R + 1) ^ e ∧ R < 1048576

theorem root_of_found (m e i : Nat) (he : 2 ≤ e) (hm : m < 1099511627776) (hi : i ≤ 1048576) (h1 : ∀ t, t < i → decide (m < (t + 1) ^ e) = false)
    (h2 : ∀ t, i ≤ t → t < 1048576 → decide (m < (t + 1) ^ e) = true) : IsRoot m e i := by
  have hbig : m < (1048575 + 1) ^ e := by
    have : (1048575 + 1) ^ 2 ≤ (1048575 + 1) ^ e := Nat.pow_le_pow_right (by omega) he
    omega
  have hlt : i < 1048576 := by
    rcases Nat.lt_or_ge i 1048576 with h | h
    · exact h
    · have := h1 1048575 (by omega)
      simp at this
      simp at hbig
      omega
  refine ⟨?_, by simpa using h2 i (Nat.le_refl _) hlt, hlt⟩
  rcases Nat.eq_zero_or_pos i with h | h
  · subst h; rw [Nat.zero_pow (by omega)]; omega
  · have := h1 (i - 1) (by omega)
    rw [show i - 1 + 1 = i by omega] at this
    simpa using this

theorem root_mono (m e a b : Nat) (hab : a ≤ b) (h : decide (m < (a + 1) ^ e) = true) : decide (m < (b + 1) ^ e) = true := by
  have : (a + 1) ^ e ≤ (b + 1) ^ e := Nat.pow_le_pow_left (by omega) e
  simp at h ⊢
  omega

def RootIs (m e : Nat) (w : World) (o : Ending) (w' : World) : Prop := ∃ R : Nat, o = .returned (.int .i64 R) ∧ IsRoot m e R ∧ Below w.heap.size w w'

set_option maxHeartbeats 1000000 in
theorem root_any (n k : Int) (m e : Nat) (w : World) (hn : n % 1099511627776 = m) (hk : k % 4 + 2 = e) :
    Calls Try.prog 24 #[.int .i64 n, .int .i64 k] w (RootIs m e w) := by
  have HN := Lib.hid hn
  have HK := Lib.hid hk
  have hm : m < 1099511627776 := by omega
  have he : 2 ≤ e := by omega
  clear hn hk
  go_enter Try.func24, Try.ntmps24
  go_wp2_with fail
  refine (at_any _ _ _ (by omega) (by omega)).mono ?_
  rintro o w' ⟨rfl, rfl⟩
  rw [HN.out]
  go_wp2_with fail
  refine (search_at _ _ _ 1048576 (fun r => decide (m < (r + 1) ^ e)) _ rfl enters_root1 (by omega) ?hf (fun a b hab _ h => root_mono m e a b hab h)).mono ?_
  case hf =>
    intro W i hb hi
    have c1 : W.cell? ⟨w.heap.size + 1, 0, none⟩ = some (.int .i64 k) := (hb.cell (p := ⟨w.heap.size + 1, 0, none⟩) (by simp)).trans (by simp [go_sem])
    have c2 : W.cell? ⟨w.heap.size, 0, none⟩ = some (.int .i64 (m : Int)) := (hb.cell (p := ⟨w.heap.size, 0, none⟩) (by simp; omega)).trans (by simp [go_sem])
    refine (root1_any i m e k _ _ W hi hm HK.out c1 c2).mono ?_
    rintro o w' ⟨rfl, rfl⟩
    exact ⟨rfl, hb⟩
  rintro o w' ⟨R, rfl, hR, h1, h2, hb⟩
  have HR := Lib.hid (root_of_found m e R he hm hR h1 h2)
  clear h1 h2
  go_wp2_with fail
  go_ret
  exact ⟨R, rfl, HR.out, (((Below.refl _ _).alloc (Nat.le_refl _) _).alloc (by simp) _).trans (hb.mono (by simp; omega))⟩

/-- The power: whole, or cut short once it is more than 2 to the power of 40. -/
def IsPower (r k v : Nat) : Prop := v ≤ 2305843009213693952 ∧ (v = r ^ k ∨ (1099511627776 < v ∧ v ≤ r ^ k))
def PowerIs (r k : Nat) (w : World) (o : Ending) (w' : World) : Prop := ∃ v : Nat, o = .returned (.int .i64 v) ∧ IsPower r k v ∧ w = w'

theorem mul_small2 (q r : Nat) (hq : q ≤ 1099511627776) (hr : r ≤ 2097152) : q * r ≤ 2305843009213693952 := by
  have := Nat.mul_le_mul hq hr; omega
theorem pow_step2 (q r e j : Nat) (hj : 1 ≤ j) (hje : j ≤ e) (h : q = r ^ (e - j)) : q * r = r ^ (e - (j - 1)) := by
  rw [h, ← Nat.pow_succ]; congr 1; omega
theorem pow_far2 (q r e j : Nat) (hje : j ≤ e) (h : q = r ^ (e - j)) (hq : 1099511627776 < q) : q ≤ r ^ e := by
  rcases Nat.eq_zero_or_pos r with h0 | h0
  · subst h0
    rcases Nat.eq_zero_or_pos (e - j) with h1 | h1
    · rw [h1] at h; simp at h; omega
    · rw [Nat.zero_pow h1] at h; omega
  · rw [h]; exact Nat.pow_le_pow_right h0 (by omega)

set_option maxHeartbeats 1000000 in
theorem power_any (a b : Int) (r k : Nat) (w : World) (ha : a = r) (hb : b = k) (hr : r ≤ 2097152) (hk : k ≤ 100) :
    Calls Try.prog 26 #[.int .i64 a, .int .i64 b] w (PowerIs r k w) := by
  subst ha hb
  go_enter Try.func26, Try.ntmps26
  go_wp2_with fail
  go_loopg [1, 5] k (fun kx s1 s5 wr => ∃ (j q : Nat), s5 = .int .i64 q ∧ s1 = .int .i64 j ∧ j ≤ k ∧ j ≤ kx ∧ q ≤ 2305843009213693952 ∧ wr = w ∧ Hid (q = r ^ (k - j)))
  case atStart => exact ⟨k, 1, rfl, rfl, Nat.le_refl _, Nat.le_refl _, by omega, rfl, (by simp : 1 = r ^ (k - k))⟩
  case round =>
    obtain ⟨j, q, rfl, rfl, hj, hjk, hq2, rfl, HQ⟩ := hrel
    by_cases hj0 : 1 ≤ j
    · by_cases hqn : q ≤ 1099511627776
      · have hms := mul_small2 q r hqn hr
        have hms2 : (q : Int) * (r : Int) ≤ 2305843009213693952 := by rw [show (q : Int) * (r : Int) = ((q * r : Nat) : Int) by simp]; omega
        have hms3 : 0 ≤ (q : Int) * (r : Int) := Int.mul_nonneg (by omega) (by omega)
        go_wp2_with fail
        go_roundg (j - 1)
        case measure => omega
        case rel => exact ⟨j - 1, q * r, by go_num, by go_num, by omega, by omega, hms, rfl, pow_step2 q r k j hj0 hj HQ.out⟩
      · go_wp2_with fail
        go_ret
        exact ⟨q, rfl, ⟨hq2, .inr ⟨by omega, pow_far2 q r k j hj HQ.out (by omega)⟩⟩, rfl⟩
    · obtain rfl : j = 0 := by omega
      go_wp2_with fail
      go_ret
      exact ⟨q, rfl, ⟨hq2, .inl (by have := HQ.out; rwa [Nat.sub_zero] at this)⟩, rfl⟩
theorem power_le {r k v m : Nat} (h : IsPower r k v) (hm : m < 1099511627776) (hp : r ^ k ≤ m) : v ≤ m := by
  rcases h.2 with h1 | h1 <;> omega
theorem power_gt {r k v m : Nat} (h : IsPower r k v) (hm : m < 1099511627776) (hp : m < r ^ k) : m < v := by
  rcases h.2 with h1 | h1 <;> omega

/-- The state of the bit by bit search: r's power is at most m, that of r + 2^j is greater. -/
def Bits (m e j r b : Nat) : Prop := r ^ e ≤ m ∧ m < (r + 2 ^ j) ^ e ∧ b = 2 ^ j / 2 ∧ r + 2 ^ j ≤ 2097152

theorem half_pow (j : Nat) (h : 1 ≤ j) : 2 ^ j / 2 = 2 ^ (j - 1) := by
  rw [show j = (j - 1) + 1 by omega, Nat.pow_succ]; simp
theorem bits_bounds {m e j r b : Nat} (h : Bits m e j r b) (hj : 1 ≤ j) : 1 ≤ b ∧ b ≤ 1048576 ∧ r + b ≤ 2097152 ∧ r ≤ 2097152 := by
  obtain ⟨_, _, hb, hs⟩ := h
  have h1 := half_pow j hj
  have h2 : 0 < 2 ^ (j - 1) := Nat.pow_pos (by omega)
  have h3 : 2 ^ j = 2 * 2 ^ (j - 1) := by rw [show j = (j - 1) + 1 by omega, Nat.pow_succ, Nat.add_sub_cancel]; omega
  omega
theorem bits_yes {m e j r b : Nat} (h : Bits m e j r b) (hj : 1 ≤ j) (hp : (r + b) ^ e ≤ m) : Bits m e (j - 1) (r + b) (b / 2) := by
  obtain ⟨h0, h4, hb, hs⟩ := h
  have h1 := half_pow j hj
  have h3 : 2 ^ j = 2 ^ (j - 1) + 2 ^ (j - 1) := by rw [show j = (j - 1) + 1 by omega, Nat.pow_succ, Nat.add_sub_cancel]; omega
  have hb' : b = 2 ^ (j - 1) := by omega
  subst hb'
  exact ⟨hp, by rw [Nat.add_assoc, ← h3]; exact h4, rfl, by omega⟩
theorem bits_no {m e j r b : Nat} (h : Bits m e j r b) (hj : 1 ≤ j) (hp : m < (r + b) ^ e) : Bits m e (j - 1) r (b / 2) := by
  obtain ⟨h0, h4, hb, hs⟩ := h
  have h1 := half_pow j hj
  have h3 : 2 ^ j = 2 ^ (j - 1) + 2 ^ (j - 1) := by rw [show j = (j - 1) + 1 by omega, Nat.pow_succ, Nat.add_sub_cancel]; omega
  have hb' : b = 2 ^ (j - 1) := by omega
  subst hb'
  have h5 : 0 < 2 ^ (j - 1) := Nat.pow_pos (by omega)
  exact ⟨h0, hp, rfl, by omega⟩
theorem bits_end {m e r b : Nat} (h : Bits m e 0 r b) : b = 0 ∧ (r < 1048576 → IsRoot m e r) := by
  obtain ⟨h0, h4, hb, hs⟩ := h
  exact ⟨by simpa using hb, fun hr => ⟨h0, by simpa using h4, hr⟩⟩
theorem bits_start {m e : Nat} (he : 2 ≤ e) (hm : m < 1099511627776) : Bits m e 21 0 1048576 := by
  refine ⟨by rw [Nat.zero_pow (by omega)]; omega, ?_, by decide, by decide⟩
  have : (0 + 2 ^ 21) ^ 2 ≤ (0 + 2 ^ 21) ^ e := Nat.pow_le_pow_right (by decide) he
  have h2 : (0 + 2 ^ 21) ^ 2 = 4398046511104 := by decide
  omega
theorem small_of_root {m e r : Nat} (he : 2 ≤ e) (hm : m < 1099511627776) (h : r ^ e ≤ m) : r < 1048576 := by
  rcases Nat.lt_or_ge r 1048576 with h1 | h1
  · exact h1
  · have h2 : 1048576 ^ 2 ≤ r ^ 2 := Nat.pow_le_pow_left h1 2
    have h3 : r ^ 2 ≤ r ^ e := Nat.pow_le_pow_right (by omega) he
    omega

def SpecRootIs (m e : Nat) (w : World) (o : Ending) (w' : World) : Prop := ∃ R : Nat, o = .returned (.int .i64 R) ∧ IsRoot m e R ∧ w = w'

set_option maxHeartbeats 1000000 in
theorem specRoot_any (n k : Int) (m e : Nat) (w : World) (hn : n % 1099511627776 = m) (hk : k % 4 + 2 = e) :
    Calls Try.prog 23 #[.int .i64 n, .int .i64 k] w (SpecRootIs m e w) := by
  have HN := Lib.hid hn
  have HK := Lib.hid hk
  have hm : m < 1099511627776 := by omega
  have he : 2 ≤ e := by omega
  have he5 : e ≤ 5 := by omega
  clear hn hk
  go_enter Try.func23, Try.ntmps23
  go_wp2_with fail
  go_loopg [5, 6] 21 (fun kx s5 s6 wr => ∃ (j r b : Nat), s5 = .int .i64 r ∧ s6 = .int .i64 b ∧ j ≤ kx ∧ r ≤ 2097152 ∧ wr = w ∧ Hid (Bits m e j r b))
  case atStart => exact ⟨21, 0, 1048576, rfl, rfl, Nat.le_refl _, by omega, rfl, bits_start he hm⟩
  case round =>
    obtain ⟨j, r, b, rfl, rfl, hjk, hr, rfl, HB⟩ := hrel
    by_cases hj0 : 1 ≤ j
    · obtain ⟨hb1, hb2, hrb, _⟩ := bits_bounds HB.out hj0
      go_wp2_with fail
      refine (specAt_any _ _ _ (by omega) (by omega)).mono ?_
      rintro o w' ⟨rfl, rfl⟩
      rw [show k % 4 = (e : Int) - 2 from by have := HK.out; omega]
      go_wp2_with fail
      refine (power_any _ _ (r + b) e _ (by omega) (by omega) (by omega) (by omega)).mono ?_
      rintro o w' ⟨v, rfl, hv, rfl⟩
      have hv1 := hv.1
      have HV := Lib.hid hv
      clear hv
      go_wp2_with fail
      refine (specAt_any _ _ _ (by omega) (by omega)).mono ?_
      rintro o w' ⟨rfl, rfl⟩
      rw [HN.out]
      by_cases hp : (r + b) ^ e ≤ m
      · have hle := power_le HV.out hm hp
        have HP := Lib.hid hp
        clear hp
        go_wp2_with fail
        go_roundg (j - 1)
        case measure => omega
        case rel => exact ⟨j - 1, r + b, b / 2, by go_num, by go_num, by omega, by omega, rfl, bits_yes HB.out hj0 HP.out⟩
      · have hle := power_gt HV.out hm (by omega)
        have HP := Lib.hid hp
        clear hp
        go_wp2_with fail
        go_roundg (j - 1)
        case measure => omega
        case rel => exact ⟨j - 1, r, b / 2, by go_num, by go_num, by omega, by omega, rfl, bits_no HB.out hj0 (by have := HP.out; omega)⟩
    · obtain rfl : j = 0 := by omega
      obtain ⟨rfl, hroot⟩ := bits_end HB.out
      have HR := Lib.hid (hroot (small_of_root he hm HB.out.1))
      clear hroot
      go_wp2_with fail
      go_ret
      exact ⟨r, rfl, HR.out, rfl⟩

/-- There is one root. -/
theorem root_unique {m e R S : Nat} (h : IsRoot m e R) (k : IsRoot m e S) : R = S := by
  obtain ⟨h1, h2, _⟩ := h
  obtain ⟨k1, k2, _⟩ := k
  rcases Nat.lt_trichotomy R S with g | g | g
  · have : (R + 1) ^ e ≤ S ^ e := Nat.pow_le_pow_left (by omega) e
    omega
  · exact g
  · have : (S + 1) ^ e ≤ R ^ e := Nat.pow_le_pow_left (by omega) e
    omega

end Go.Proofs.Ytbgimajgbgfomaa

/-
  What is proved here: contracts of sort.Find, of sort.SearchInts and of the thin package's found; conditions: the list is ascending and has fewer than 2^62 elements.
-/
import Derived.Test.YtpkdjdofbedncaaOut
import Derived.Test.YtpkdjdofbedncaaAscPlain
namespace Go.Proofs.Ytpkdjdofbedncaa
open Go.RowKit
set_option linter.unusedVariables false

/-- What the function value of Find does at each place. -/
def AsksC (g : Nat) (cb : Array Value) (n : Nat) (c : Nat → Int) (w : World) : Prop :=
  ∀ (W : World) (i : Nat), Below w.heap.size w W → i < n → Calls Try.prog g (#[.int .i64 i] ++ cb) W fun e w' => e = .returned (.int .i64 (c i)) ∧ Below w.heap.size w w'

/-- What sort.Find has found. -/
def FoundC (n : Nat) (c : Nat → Int) (w : World) (e : Ending) (w' : World) : Prop :=
  ∃ (i : Nat) (b : Bool), e = .returned (.tuple #[.int .i64 i, .bool b]) ∧ i ≤ n ∧ (b = true ↔ i < n ∧ c i = 0) ∧ (∀ t, t < i → 0 < c t) ∧ (∀ t, i ≤ t → t < n → c t ≤ 0) ∧ Below w.heap.size w w'

set_option maxHeartbeats 1000000 in
theorem find_any (g : Nat) (cb : Array Value) (n : Nat) (c : Nat → Int) (w : World) (eg : ∀ args w, (callFunc g args).run Try.prog w = .ok (.enter g args) w) (hsz : n < 4611686018427387904)
    (hf : AsksC g cb n c w) (hmono : ∀ a b, a ≤ b → b < n → c a ≤ 0 → c b ≤ 0) :
    Calls Try.prog 62 #[.int .i64 n, .func (.func g) #[] cb] w (FoundC n c w) := by
  have M := Lib.hid hmono
  clear hmono
  go_enter Try.func62, Try.ntmps62
  go_wp2
  go_loopg [4, 6] n (fun kx s4 s6 wr => ∃ (lo hi : Nat), s4 = .int .i64 lo ∧ s6 = .int .i64 hi ∧ lo ≤ hi ∧ hi ≤ n ∧ hi - lo ≤ kx ∧ Below w.heap.size w wr ∧
    Hid ((∀ t, t < lo → 0 < c t) ∧ (∀ t, hi ≤ t → t < n → c t ≤ 0)))
  case atStart => exact ⟨0, n, rfl, rfl, Nat.zero_le _, Nat.le_refl _, by omega, Below.refl _ _, (⟨fun t ht => absurd ht (Nat.not_lt_zero _), fun t h1 h2 => by omega⟩ : (∀ t, t < 0 → 0 < c t) ∧ (∀ t, n ≤ t → t < n → c t ≤ 0))⟩
  case round =>
    obtain ⟨lo, hi, rfl, rfl, hlh, hin, hg, hbel, I⟩ := hrel
    by_cases hlt : lo < hi
    · have hc := hf wr ((lo + hi) / 2) hbel (by omega)
      rw [show (((lo + hi) / 2 : Nat) : Int) = ((lo : Int) + (hi : Int)) / 2 by omega] at hc
      obtain ⟨y, hy⟩ : ∃ y, y = c ((lo + hi) / 2) := ⟨_, rfl⟩
      rw [← hy] at hc
      have HY := Lib.hid hy
      clear hy
      by_cases hp : 0 < y
      · go_wp2_with fail
        refine hc.mono ?_
        rintro e w' ⟨rfl, hb'⟩
        go_wp2_with fail
        go_roundg (hi - ((lo + hi) / 2 + 1))
        case measure => omega
        case rel =>
          have I2 : Hid ((∀ t, t < (lo + hi) / 2 + 1 → 0 < c t) ∧ (∀ t, hi ≤ t → t < n → c t ≤ 0)) := ⟨fun t ht => (by
            by_cases h : c t ≤ 0
            · have := M.out t ((lo + hi) / 2) (by omega) (by omega) h; rw [← HY.out] at this; omega
            · omega), I.out.2⟩
          exact ⟨(lo + hi) / 2 + 1, hi, by rw [show ((lo : Int) + (hi : Int)) / 2 + 1 = (((lo + hi) / 2 + 1 : Nat) : Int) by omega], rfl, by omega, hin, Nat.le_refl _, hb', I2⟩
      · go_wp2_with fail
        refine hc.mono ?_
        rintro e w' ⟨rfl, hb'⟩
        go_wp2_with fail
        go_roundg ((lo + hi) / 2 - lo)
        case measure => omega
        case rel =>
          have I2 : Hid ((∀ t, t < lo → 0 < c t) ∧ (∀ t, (lo + hi) / 2 ≤ t → t < n → c t ≤ 0)) := ⟨I.out.1, fun t ht htn => M.out ((lo + hi) / 2) t ht htn (by rw [← HY.out]; omega)⟩
          exact ⟨lo, (lo + hi) / 2, rfl, by rw [show ((lo : Int) + (hi : Int)) / 2 = (((lo + hi) / 2 : Nat) : Int) by omega], by omega, by omega, Nat.le_refl _, hb', I2⟩
    · obtain rfl : hi = lo := by omega
      by_cases hn : hi < n
      · have hc := hf wr hi hbel hn
        obtain ⟨y, hy⟩ : ∃ y, y = c hi := ⟨_, rfl⟩
        rw [← hy] at hc
        have HY := Lib.hid hy
        clear hy
        by_cases h0 : y = 0
        · subst h0
          go_wp2_with fail
          refine hc.mono ?_
          rintro e w' ⟨rfl, hb'⟩
          go_wp2_with fail
          go_ret2
          exact ⟨hi, true, rfl, hin, by simp [hn, ← HY.out], I.out.1, I.out.2, hb'⟩
        · have hyf : (y == 0) = false := by simpa using h0
          go_wp2_with fail
          refine hc.mono ?_
          rintro e w' ⟨rfl, hb'⟩
          go_wp2_with fail
          go_ret2
          exact ⟨hi, false, rfl, hin, by simp [← HY.out, h0], I.out.1, I.out.2, hb'⟩
      · go_wp2_with fail
        go_ret2
        exact ⟨hi, false, rfl, hin, by simp [hn], I.out.1, I.out.2, hbel⟩

/-- The comparison of found. -/
def cmp3 (v y : Int) : Int := if v < y then -1 else if y < v then 1 else 0
theorem cmp3_pos {v y : Int} : 0 < cmp3 v y ↔ y < v := by unfold cmp3; split <;> (try split) <;> omega
theorem cmp3_nonpos {v y : Int} : cmp3 v y ≤ 0 ↔ v ≤ y := by unfold cmp3; split <;> (try split) <;> omega
theorem cmp3_zero {v y : Int} : cmp3 v y = 0 ↔ v = y := by unfold cmp3; split <;> (try split) <;> omega

theorem enters_found1 : ∀ args w, (callFunc 63 args).run Try.prog w = .ok (.enter 63 args) w := enters_of Try.func63 (by kernel_rfl) rfl
set_option maxHeartbeats 1000000 in
theorem found1_any (W : World) (bx bv b off n cap k : Nat) (v y : Int) (hk : k < n) (hbx : W.cell? ⟨bx, 0, none⟩ = some (.slice (some ⟨b, off, none⟩) n cap)) (hv : W.cell? ⟨bv, 0, none⟩ = some (.int .i64 v))
    (hc : W.cell? ⟨b, off + k, none⟩ = some (.int .i64 y)) :
    Calls Try.prog 63 #[.int .i64 k, .pointer (some ⟨bv, 0, none⟩), .pointer (some ⟨bx, 0, none⟩)] W fun e w' => e = .returned (.int .i64 (cmp3 v y)) ∧ Below W.heap.size W w' := by
  have h1 : (0 : Int) ≤ (k : Int) := by omega
  have h2 : (k : Int) < (n : Int) := by omega
  by_cases hvy : v < y
  · rw [show cmp3 v y = -1 by unfold cmp3; rw [if_pos hvy]]
    go_enter Try.func63, Try.ntmps63
    go_wp2_with fail
    go_quiet (fail)
    go_wp2_with fail
    go_ret
    exact ⟨rfl, below_drewN_self _ _⟩
  · by_cases hyv : y < v
    · rw [show cmp3 v y = 1 by unfold cmp3; rw [if_neg hvy, if_pos hyv]]
      go_enter Try.func63, Try.ntmps63
      go_wp2_with fail
      go_quiet (fail)
      go_wp2_with fail
      go_quiet (fail)
      go_wp2_with fail
      go_ret
      exact ⟨rfl, ⟨rfl, rfl, rfl, Nat.le_refl _, fun _ _ => rfl⟩⟩
    · rw [show cmp3 v y = 0 by unfold cmp3; rw [if_neg hvy, if_neg hyv]]
      go_enter Try.func63, Try.ntmps63
      go_wp2_with fail
      go_quiet (fail)
      go_wp2_with fail
      go_quiet (fail)
      go_wp2_with fail
      go_ret
      exact ⟨rfl, ⟨rfl, rfl, rfl, Nat.le_refl _, fun _ _ => rfl⟩⟩

theorem getD_at {l : List Int} {i : Nat} (h : i < l.length) : l[i]? = some (l.getD i 0) := by rw [List.getD_eq_getElem?_getD, List.getElem?_eq_getElem h, Option.getD_some]

set_option maxHeartbeats 1000000 in
theorem found_any (va : Value) (xs : List Int) (v : Int) (w : World) (h : Ro w va xs) (hasc : Asc xs) (hn : xs.length ≤ 17592186044416) :
    Calls Try.prog 48 #[va, .int .i64 v] w fun e w' => e = .returned (.bool (decide (v ∈ xs))) ∧ Below w.heap.size w w' := by
  obtain ⟨A, c, b, off, rfl, hnc, hcm, ha, hcell⟩ := h
  obtain ⟨n, hxn⟩ : ∃ n, n = xs.length := ⟨_, rfl⟩
  rw [← hxn] at hn hnc ha ⊢
  have HX := Lib.hid hxn
  have HC := Lib.hid hcell
  have HA := Lib.hid ha
  have HAS := Lib.hid hasc
  clear hcell ha hxn hasc
  unfold maxLen at hcm
  obtain ⟨r, hr⟩ : ∃ r, r = decide (v ∈ xs) := ⟨_, rfl⟩
  rw [← hr]
  have HR := Lib.hid hr
  clear hr
  go_enter Try.func48, Try.ntmps48
  go_wp2_with fail
  refine (find_any 63 _ n (fun i => cmp3 v (xs.getD i 0)) _ enters_found1 (by omega) ?hf ?hmono).mono ?_
  case hmono =>
    intro i j hij hj hp
    rw [cmp3_nonpos] at hp ⊢
    have := asc_get HAS.out hij (getD_at (l := xs) (by rw [← HX.out]; omega)) (getD_at (l := xs) (by rw [← HX.out]; omega))
    omega
  case hf =>
    intro W i hbW hi
    obtain ⟨rfl, hbl⟩ := HA.out (by omega)
    have q1 : W.cell? ⟨w.heap.size, 0, none⟩ = some (.slice (some ⟨b, off, none⟩) n c) := (hbW.cell (p := ⟨w.heap.size, 0, none⟩) (by simp; omega)).trans (by simp [go_sem])
    have q2 : W.cell? ⟨w.heap.size + 1, 0, none⟩ = some (.int .i64 v) := (hbW.cell (p := ⟨w.heap.size + 1, 0, none⟩) (by simp)).trans (by simp [go_sem])
    have q3 : W.cell? ⟨b, off + i, none⟩ = some (.int .i64 (xs.getD i 0)) :=
      (hbW.cell (p := ⟨b, off + i, none⟩) (by simp; omega)).trans ((World.cell?_alloc_lt _ _ _ (by simp; omega)).trans ((World.cell?_alloc_lt _ _ _ (by simp; omega)).trans (HC.out i _ (getD_at (by rw [← HX.out]; exact hi)))))
    exact (found1_any W _ _ b off n c i v _ hi q1 q2 q3).mono fun e w' ⟨h1, h2⟩ => ⟨h1, hbW.trans (h2.mono (by have := hbW.size; simpa using this))⟩
  rintro e w1 ⟨i, r2, rfl, hin, hr2, hf1, hf2, hb1⟩
  have hres : r2 = r := by
    rw [HR.out, Bool.eq_iff_iff, hr2, decide_eq_true_iff]
    constructor
    · rintro ⟨h1, h2⟩
      rw [cmp3_zero] at h2
      rw [h2]
      exact List.mem_of_getElem? (getD_at (by rw [← HX.out]; exact h1))
    · intro hm
      obtain ⟨k, hk, e⟩ := List.mem_iff_getElem.1 hm
      have hk' : xs[k]? = some v := by rw [List.getElem?_eq_getElem hk, e]
      have hkn : k < n := by rw [HX.out]; exact hk
      have hik : i ≤ k := by
        rcases Nat.lt_or_ge k i with h | h
        · have := hf1 k h
          rw [cmp3_pos] at this
          have e2 : xs.getD k 0 = v := by rw [List.getD_eq_getElem?_getD, hk']; rfl
          omega
        · exact h
      have hi : i < n := by omega
      refine ⟨hi, ?_⟩
      rw [cmp3_zero]
      have h3 := hf2 i (Nat.le_refl _) hi
      rw [cmp3_nonpos] at h3
      have := asc_get HAS.out hik (getD_at (l := xs) (by rw [← HX.out]; omega)) hk'
      omega
  subst hres
  have hbw : Below w.heap.size w w1 := (((Below.refl _ _).alloc (Nat.le_refl _) _).alloc (by simp) _).trans (hb1.mono (by simp; omega))
  clear hr2 hf1 hf2 hb1
  go_wp2_with fail
  go_ret
  exact ⟨rfl, hbw⟩

theorem enters_searchInts1 : ∀ args w, (callFunc 61 args).run Try.prog w = .ok (.enter 61 args) w := enters_of Try.func61 (by kernel_rfl) rfl
set_option maxHeartbeats 1000000 in
theorem searchInts1_any (W : World) (bx bv b off n cap k : Nat) (v y : Int) (hk : k < n) (hbx : W.cell? ⟨bx, 0, none⟩ = some (.slice (some ⟨b, off, none⟩) n cap)) (hv : W.cell? ⟨bv, 0, none⟩ = some (.int .i64 v))
    (hc : W.cell? ⟨b, off + k, none⟩ = some (.int .i64 y)) :
    Calls Try.prog 61 #[.int .i64 k, .pointer (some ⟨bx, 0, none⟩), .pointer (some ⟨bv, 0, none⟩)] W fun e w' => e = .returned (.bool (decide (v ≤ y))) ∧ Below W.heap.size W w' := by
  have h1 : (0 : Int) ≤ (k : Int) := by omega
  have h2 : (k : Int) < (n : Int) := by omega
  go_enter Try.func61, Try.ntmps61
  go_wp2_with fail
  go_quiet (fail)
  go_wp2_with fail
  go_ret
  exact ⟨rfl, below_drewN_self _ _⟩

/-- Where a number is put into an ascending list: as many are less. -/
theorem less_at {xs : List Int} {v : Int} {i : Nat} (hin : i ≤ xs.length) (h1 : ∀ t, t < i → decide (v ≤ xs.getD t 0) = false) (h2 : ∀ t, i ≤ t → t < xs.length → decide (v ≤ xs.getD t 0) = true) : i = xs.countP (fun y => decide (y < v)) := by
  have h3 : xs.countP (fun y => decide (y < v)) = (xs.take i).countP (fun y => decide (y < v)) + (xs.drop i).countP (fun y => decide (y < v)) := by rw [← List.countP_append, List.take_append_drop]
  have h4 : (xs.take i).countP (fun y => decide (y < v)) = (xs.take i).length := List.countP_eq_length.2 (fun y hy => by
    obtain ⟨j, hj, hyj⟩ := mem_take_get hy
    have := h1 j hj
    rw [List.getD_eq_getElem?_getD, hyj] at this
    simpa using this)
  have h5 : (xs.drop i).countP (fun y => decide (y < v)) = 0 := List.countP_eq_zero.2 (fun y hy => by
    obtain ⟨j, hj, hyj⟩ := mem_drop_get hy
    have := h2 j hj (List.getElem?_eq_some_iff.1 hyj).1
    rw [List.getD_eq_getElem?_getD, hyj] at this
    simpa using this)
  rw [h3, h4, h5, List.length_take]
  omega

set_option maxHeartbeats 1000000 in
theorem searchInts_any (va : Value) (xs : List Int) (v : Int) (w : World) (h : Ro w va xs) (hasc : Asc xs) (hn : xs.length ≤ 17592186044416) :
    Calls Try.prog 47 #[va, .int .i64 v] w fun e w' => e = .returned (.int .i64 (xs.countP (fun y => decide (y < v)) : Nat)) ∧ Below w.heap.size w w' := by
  obtain ⟨A, c, b, off, rfl, hnc, hcm, ha, hcell⟩ := h
  obtain ⟨n, hxn⟩ : ∃ n, n = xs.length := ⟨_, rfl⟩
  rw [← hxn] at hn hnc ha ⊢
  have HX := Lib.hid hxn
  have HC := Lib.hid hcell
  have HA := Lib.hid ha
  have HAS := Lib.hid hasc
  clear hcell ha hxn hasc
  unfold maxLen at hcm
  obtain ⟨r, hr⟩ : ∃ r, r = xs.countP (fun y => decide (y < v)) := ⟨_, rfl⟩
  rw [← hr]
  have HR := Lib.hid hr
  clear hr
  go_enter Try.func47, Try.ntmps47
  go_wp2_with fail
  refine (search_at _ 61 _ n (fun i => decide (v ≤ xs.getD i 0)) _ rfl enters_searchInts1 (by omega) ?hf ?hmono).mono ?_
  case hmono =>
    intro i j hij hj hp
    have := asc_get HAS.out hij (getD_at (l := xs) (by rw [← HX.out]; omega)) (getD_at (l := xs) (by rw [← HX.out]; omega))
    simp only [decide_eq_true_iff] at hp ⊢
    omega
  case hf =>
    intro W i hbW hi
    obtain ⟨rfl, hbl⟩ := HA.out (by omega)
    have q1 : W.cell? ⟨w.heap.size, 0, none⟩ = some (.slice (some ⟨b, off, none⟩) n c) := (hbW.cell (p := ⟨w.heap.size, 0, none⟩) (by simp; omega)).trans (by simp [go_sem])
    have q2 : W.cell? ⟨w.heap.size + 1, 0, none⟩ = some (.int .i64 v) := (hbW.cell (p := ⟨w.heap.size + 1, 0, none⟩) (by simp)).trans (by simp [go_sem])
    have q3 : W.cell? ⟨b, off + i, none⟩ = some (.int .i64 (xs.getD i 0)) :=
      (hbW.cell (p := ⟨b, off + i, none⟩) (by simp; omega)).trans ((World.cell?_alloc_lt _ _ _ (by simp; omega)).trans ((World.cell?_alloc_lt _ _ _ (by simp; omega)).trans (HC.out i _ (getD_at (by rw [← HX.out]; exact hi)))))
    exact (searchInts1_any W _ _ b off n c i v _ hi q1 q2 q3).mono fun e w' ⟨h1, h2⟩ => ⟨h1, hbW.trans (h2.mono (by have := hbW.size; simpa using this))⟩
  rintro e w1 ⟨i, rfl, hin, hf1, hf2, hb1⟩
  obtain rfl : i = r := by
    rw [HR.out]
    exact less_at (by rw [← HX.out]; exact hin) hf1 (fun t h1 h2 => hf2 t h1 (by rw [HX.out]; exact h2))
  have hbw : Below w.heap.size w w1 := (((Below.refl _ _).alloc (Nat.le_refl _) _).alloc (by simp) _).trans (hb1.mono (by simp; omega))
  clear hf1 hf2 hb1
  go_wp2_with fail
  go_ret
  exact ⟨rfl, hbw⟩

end Go.Proofs.Ytpkdjdofbedncaa

/-
  What is proved here: contracts of the laws' helpers same (two lists are equal) and works; no condition.
-/
import Derived.Test.YtiioojnoggcnmaaAsc
import Derived.Test.YtiioojnoggcnmaaOut
namespace Go.Proofs.Ytiioojnoggcnmaa
open Go.RowKit
set_option linter.unusedVariables false

theorem take_eq_step {xs ys : List Int} {k : Nat} {x y : Int} (h : xs.take k = ys.take k) (hx : xs[k]? = some x) (hy : ys[k]? = some y) (e : x = y) : xs.take (k + 1) = ys.take (k + 1) := by
  rw [List.take_add_one, List.take_add_one, h, hx, hy, e]

set_option maxHeartbeats 1000000 in
theorem same_any (v u : Value) (xs ys : List Int) (w : World) (h : Ro w v xs) (h' : Ro w u ys) :
    Calls Try.prog 15 #[v, u] w fun e w' => e = .returned (.bool (decide (xs = ys))) ∧ Below w.heap.size w w' := by
  obtain ⟨r, hr⟩ : ∃ r, r = decide (xs = ys) := ⟨_, rfl⟩
  rw [← hr]
  obtain ⟨A, c, b, off, rfl, hnc, hcm, ha, hcell⟩ := h
  obtain ⟨A', c', b', off', rfl, hnc', hcm', ha', hcell'⟩ := h'
  obtain ⟨n, hxn⟩ : ∃ n, n = xs.length := ⟨_, rfl⟩
  obtain ⟨m, hym⟩ : ∃ m, m = ys.length := ⟨_, rfl⟩
  rw [← hxn] at hnc ha ⊢
  rw [← hym] at hnc' ha' ⊢
  have HX := Lib.hid hxn
  have HY := Lib.hid hym
  have HC := Lib.hid hcell
  have HA := Lib.hid ha
  have HC' := Lib.hid hcell'
  have HA' := Lib.hid ha'
  have HR := Lib.hid hr
  clear hxn hym hcell ha hcell' ha' hr
  unfold maxLen at hcm hcm'
  by_cases hnm : n = m
  · subst hnm
    go_enter Try.func15, Try.ntmps15
    go_wp2_with fail
    go_loopg [13] n (fun kx s5 wr => ∃ k : Nat, k ≤ n ∧ s5 = .int .i64 k ∧ n - k ≤ kx ∧ Below w.heap.size w wr ∧ Hid (xs.take k = ys.take k))
    case atStart => exact ⟨0, Nat.zero_le _, rfl, by omega, Below.refl _ _, by show xs.take 0 = ys.take 0; simp⟩
    case round =>
      obtain ⟨k, hk, rfl, hkk, hb, HE⟩ := hrel
      by_cases hlt : k < n
      · obtain ⟨x, hx⟩ : ∃ x, xs[k]? = some x := ⟨xs[k]'(by have := HX.out; omega), List.getElem?_eq_getElem _⟩
        obtain ⟨y, hy⟩ : ∃ y, ys[k]? = some y := ⟨ys[k]'(by have := HY.out; omega), List.getElem?_eq_getElem _⟩
        obtain ⟨rfl, hbl⟩ := HA.out (by omega)
        obtain ⟨rfl, hbl'⟩ := HA'.out (by omega)
        have hc1 : wr.cell? ⟨b, off + k, none⟩ = some (.int .i64 x) := (hb.cell (p := ⟨b, off + k, none⟩) hbl).trans (HC.out k x hx)
        have hc2 : wr.cell? ⟨b', off' + k, none⟩ = some (.int .i64 y) := (hb.cell (p := ⟨b', off' + k, none⟩) hbl').trans (HC'.out k y hy)
        have HXK := Lib.hid hx
        have HYK := Lib.hid hy
        clear hx hy
        have h1 : (0 : Int) ≤ (k : Int) := by omega
        have h2 : (k : Int) < (n : Int) := by omega
        by_cases hxy : x = y
        · subst hxy
          go_wp2_with fail
          go_quiet (fail)
          go_wp2_with fail
          go_roundg (n - (k + 1))
          case measure => omega
          case rel => exact ⟨k + 1, by omega, by go_num, by omega, ⟨hb.os, hb.tape, hb.output, hb.size, hb.block⟩, take_eq_step HE.out HXK.out HYK.out rfl⟩
        · have hne : (x != y) = true := by simpa using hxy
          have hres : r = false := by
            rw [HR.out]
            simp only [decide_eq_false_iff_not]
            intro e
            subst e
            have := HXK.out
            rw [HYK.out] at this
            injection this with this
            exact hxy this.symm
          subst hres
          go_wp2_with fail
          go_quiet (fail)
          go_wp2_with fail
          go_ret
          exact ⟨rfl, ⟨hb.os, hb.tape, hb.output, hb.size, hb.block⟩⟩
      · have hres : r = true := by
          rw [HR.out]
          have h3 := HE.out
          rw [List.take_of_length_le (by rw [← HX.out]; omega), List.take_of_length_le (by rw [← HY.out]; omega)] at h3
          simpa using h3
        subst hres
        go_wp2_with fail
        go_ret
        exact ⟨rfl, hb⟩
  · have hres : r = false := by
      rw [HR.out]
      simp only [decide_eq_false_iff_not]
      intro e
      have := congrArg List.length e
      rw [← HX.out, ← HY.out] at this
      exact hnm this
    subst hres
    have hne : ((n : Int) != (m : Int)) = true := by simp; omega
    go_enter Try.func15, Try.ntmps15
    go_wp2_with fail
    all_goals first
      | (exfalso; omega)
      | (go_ret; exact ⟨rfl, Below.refl _ _⟩)

theorem same_yes (v u : Value) (xs ys : List Int) (w : World) (h : Ro w v xs) (h' : Ro w u ys) (e : xs = ys) :
    Calls Try.prog 15 #[v, u] w fun e w' => e = .returned (.bool true) ∧ Below w.heap.size w w' :=
  (same_any v u xs ys w h h').mono fun e' w' ⟨h1, h2⟩ => ⟨by rw [h1, decide_eq_true e], h2⟩

set_option maxRecDepth 100000 in
set_option maxHeartbeats 1000000 in
theorem works_any (w : World) : Calls Try.prog 17 #[] w fun e w' => e = .returned (.bool true) ∧ Below w.heap.size w w' := by
  have h21 : ∀ W : World, Ro (W.alloc (.cells #[.int .i64 2, .int .i64 1] 3)) (.slice (some ⟨W.heap.size, 0, none⟩) 2 2) [2, 1] := fun W =>
    ⟨_, _, W.heap.size, 0, rfl, Nat.le_refl _, by unfold maxLen; omega, fun _ => ⟨rfl, by simp⟩, fun k x hx => by
      match k, hx with
      | 0, hx => simp at hx; subst hx; simp [go_sem]
      | 1, hx => simp at hx; subst hx; simp [go_sem]⟩
  have h12 : ∀ W : World, Ro (W.alloc (.cells #[.int .i64 1, .int .i64 2] 3)) (.slice (some ⟨W.heap.size, 0, none⟩) 2 2) [1, 2] := fun W =>
    ⟨_, _, W.heap.size, 0, rfl, Nat.le_refl _, by unfold maxLen; omega, fun _ => ⟨rfl, by simp⟩, fun k x hx => by
      match k, hx with
      | 0, hx => simp at hx; subst hx; simp [go_sem]
      | 1, hx => simp at hx; subst hx; simp [go_sem]⟩
  have H21 := Lib.hid h21
  have H12 := Lib.hid h12
  clear h21 h12
  go_enter Try.func17, Try.ntmps17
  go_wp2_with fail
  refine (ascending_any _ [2, 1] _ (H21.out _) (by simp)).mono ?_
  rintro e w1 ⟨v1, rfl, ho1, hb1⟩
  have hb1' : Below w.heap.size w w1 := ((Below.refl _ _).alloc (Nat.le_refl _) _).trans (hb1.mono (by simp))
  have HO1 := Lib.hid ho1
  clear ho1 hb1
  go_wp2_with fail
  refine (same_yes _ _ (asc [2, 1]) [1, 2] _ (HO1.out.ro.below ((Below.refl _ _).alloc (Nat.le_refl _) _)) (H12.out _) (asc_eq (a := [1, 2]) (by unfold Asc; simp) (List.Perm.swap 2 1 [])).symm).mono ?_
  rintro e w2 ⟨rfl, hb2⟩
  have hb2' : Below w.heap.size w w2 := (hb1'.alloc hb1'.size _).trans (hb2.mono (by have := hb1'.size; simp; omega))
  clear hb2
  go_wp2_with fail
  go_ret
  exact ⟨rfl, hb2'⟩

end Go.Proofs.Ytiioojnoggcnmaa

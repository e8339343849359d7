/-
  What is proved here: the contract of sort.SearchInts; conditions: the list is ascending and has fewer than 2^62 elements.
-/
import Derived.Test.YtiioojnoggcnmaaOut
import Derived.Test.YtiioojnoggcnmaaAscPlain
namespace Go.Proofs.Ytiioojnoggcnmaa
open Go.RowKit
set_option linter.unusedVariables false

theorem getD_at {l : List Int} {i : Nat} (h : i < l.length) : l[i]? = some (l.getD i 0) := by rw [List.getD_eq_getElem?_getD, List.getElem?_eq_getElem h, Option.getD_some]

theorem enters_searchInts1 : ∀ args w, (callFunc 61 args).run Try.prog w = .ok (.enter 61 args) w := enters_of Try.func61 (by kernel_rfl) rfl
set_option maxHeartbeats 1000000 in
theorem searchInts1_any (W : World) (bx bv b off n cap k : Nat) (v y : Int) (hk : k < n) (hbx : W.cell? ⟨bx, 0, none⟩ = some (.slice (some ⟨b, off, none⟩) n cap)) (hv : W.cell? ⟨bv, 0, none⟩ = some (.int .i64 v))
    (hc : W.cell? ⟨b, off + k, none⟩ = some (.int .i64 y)) :
    Calls Try.prog 61 #[.int .i64 k, .pointer (some ⟨bx, 0, none⟩), .pointer (some ⟨bv, 0, none⟩)] W fun e w' => e = .returned (.bool (decide (v ≤ y))) ∧ Below W.heap.size W w' := by
  have h1 : (0 : Int) ≤ (k : Int) := by omega
  have h2 : (k : Int) < (n : Int) := by omega
  go_enter Try.func61, Try.ntmps61
  go_wp2_with fail
  go_quiet (fail)
  go_wp2_with fail
  go_ret
  exact ⟨rfl, below_drewN_self _ _⟩

/-- Where a number is put into an ascending list: as many are less. -/
theorem less_at {xs : List Int} {v : Int} {i : Nat} (hin : i ≤ xs.length) (h1 : ∀ t, t < i → decide (v ≤ xs.getD t 0) = false) (h2 : ∀ t, i ≤ t → t < xs.length → decide (v ≤ xs.getD t 0) = true) : i = xs.countP (fun y => decide (y < v)) := by
  have h3 : xs.countP (fun y => decide (y < v)) = (xs.take i).countP (fun y => decide (y < v)) + (xs.drop i).countP (fun y => decide (y < v)) := by rw [← List.countP_append, List.take_append_drop]
  have h4 : (xs.take i).countP (fun y => decide (y < v)) = (xs.take i).length := List.countP_eq_length.2 (fun y hy => by
    obtain ⟨j, hj, hyj⟩ := mem_take_get hy
    have := h1 j hj
    rw [List.getD_eq_getElem?_getD, hyj] at this
    simpa using this)
  have h5 : (xs.drop i).countP (fun y => decide (y < v)) = 0 := List.countP_eq_zero.2 (fun y hy => by
    obtain ⟨j, hj, hyj⟩ := mem_drop_get hy
    have := h2 j hj (List.getElem?_eq_some_iff.1 hyj).1
    rw [List.getD_eq_getElem?_getD, hyj] at this
    simpa using this)
  rw [h3, h4, h5, List.length_take]
  omega

set_option maxHeartbeats 1000000 in
theorem searchInts_any (va : Value) (xs : List Int) (v : Int) (w : World) (h : Ro w va xs) (hasc : Asc xs) (hn : xs.length ≤ 17592186044416) :
    Calls Try.prog 51 #[va, .int .i64 v] w fun e w' => e = .returned (.int .i64 (xs.countP (fun y => decide (y < v)) : Nat)) ∧ Below w.heap.size w w' := by
  obtain ⟨A, c, b, off, rfl, hnc, hcm, ha, hcell⟩ := h
  obtain ⟨n, hxn⟩ : ∃ n, n = xs.length := ⟨_, rfl⟩
  rw [← hxn] at hn hnc ha ⊢
  have HX := Lib.hid hxn
  have HC := Lib.hid hcell
  have HA := Lib.hid ha
  have HAS := Lib.hid hasc
  clear hcell ha hxn hasc
  unfold maxLen at hcm
  obtain ⟨r, hr⟩ : ∃ r, r = xs.countP (fun y => decide (y < v)) := ⟨_, rfl⟩
  rw [← hr]
  have HR := Lib.hid hr
  clear hr
  go_enter Try.func51, Try.ntmps51
  go_wp2_with fail
  refine (search_at _ 61 _ n (fun i => decide (v ≤ xs.getD i 0)) _ rfl enters_searchInts1 (by omega) ?hf ?hmono).mono ?_
  case hmono =>
    intro i j hij hj hp
    have := asc_get HAS.out hij (getD_at (l := xs) (by rw [← HX.out]; omega)) (getD_at (l := xs) (by rw [← HX.out]; omega))
    simp only [decide_eq_true_iff] at hp ⊢
    omega
  case hf =>
    intro W i hbW hi
    obtain ⟨rfl, hbl⟩ := HA.out (by omega)
    have q1 : W.cell? ⟨w.heap.size, 0, none⟩ = some (.slice (some ⟨b, off, none⟩) n c) := (hbW.cell (p := ⟨w.heap.size, 0, none⟩) (by simp; omega)).trans (by simp [go_sem])
    have q2 : W.cell? ⟨w.heap.size + 1, 0, none⟩ = some (.int .i64 v) := (hbW.cell (p := ⟨w.heap.size + 1, 0, none⟩) (by simp)).trans (by simp [go_sem])
    have q3 : W.cell? ⟨b, off + i, none⟩ = some (.int .i64 (xs.getD i 0)) :=
      (hbW.cell (p := ⟨b, off + i, none⟩) (by simp; omega)).trans ((World.cell?_alloc_lt _ _ _ (by simp; omega)).trans ((World.cell?_alloc_lt _ _ _ (by simp; omega)).trans (HC.out i _ (getD_at (by rw [← HX.out]; exact hi)))))
    exact (searchInts1_any W _ _ b off n c i v _ hi q1 q2 q3).mono fun e w' ⟨h1, h2⟩ => ⟨h1, hbW.trans (h2.mono (by have := hbW.size; simpa using this))⟩
  rintro e w1 ⟨i, rfl, hin, hf1, hf2, hb1⟩
  obtain rfl : i = r := by
    rw [HR.out]
    exact less_at (by rw [← HX.out]; exact hin) hf1 (fun t h1 h2 => hf2 t h1 (by rw [HX.out]; exact h2))
  have hbw : Below w.heap.size w w1 := (((Below.refl _ _).alloc (Nat.le_refl _) _).alloc (by simp) _).trans (hb1.mono (by simp; omega))
  clear hf1 hf2 hb1
  go_wp2_with fail
  go_ret
  exact ⟨rfl, hbw⟩

end Go.Proofs.Ytiioojnoggcnmaa

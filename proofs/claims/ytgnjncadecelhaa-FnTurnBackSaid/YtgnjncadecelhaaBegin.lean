/-
  What is proved here: the contract of Begin of the thin package, where what Search asks is false ahead of some place and true from it on; condition: at most 2^44 elements.
-/
import Derived.Test.YtgnjncadecelhaaFind
namespace Go.Proofs.Ytgnjncadecelhaa
open Go.RowKit
set_option linter.unusedVariables false

theorem enters_begin1 : ∀ args w, (callFunc 53 args).run Try.prog w = .ok (.enter 53 args) w := enters_of Try.func53 (by kernel_rfl) rfl
set_option maxHeartbeats 1000000 in
theorem begin1_any (W : World) (bx b off n cap k : Nat) (y z : Int) (hk : k < n) (hn : n ≤ 17592186044416) (hbx : W.cell? ⟨bx, 0, none⟩ = some (.slice (some ⟨b, off, none⟩) n cap))
    (hc : W.cell? ⟨b, off + k, none⟩ = some (.int .i64 y)) (hl : W.cell? ⟨b, off + (n - 1), none⟩ = some (.int .i64 z)) :
    Calls Try.prog 53 #[.int .i64 k, .pointer (some ⟨bx, 0, none⟩)] W fun e w' => e = .returned (.bool (decide (y ≤ z))) ∧ Below W.heap.size W w' := by
  have h1 : (0 : Int) ≤ (k : Int) := by omega
  have h2 : (k : Int) < (n : Int) := by omega
  have y1 : IntKind.i64.wrap ((n : Int) - 1) = (n : Int) - 1 := IntWalk.i64_in _ (by omega)
  have y2 : (0 : Int) ≤ (n : Int) - 1 := by omega
  have y3 : (n : Int) - 1 < (n : Int) := by omega
  have y4 : ((n : Int) - 1).toNat = n - 1 := by omega
  have y5 : (1 : Int) ≤ (n : Int) := by omega
  go_enter Try.func53, Try.ntmps53
  go_wp2_with fail
  go_quiet (fail)
  go_wp2_with fail
  go_ret
  exact ⟨rfl, below_drewN_self _ _⟩

set_option maxHeartbeats 1000000 in
theorem begin_any (va : Value) (xs : List Int) (w : World) (h : Ro w va xs) (hn : xs.length ≤ 17592186044416)
    (hmono : ∀ a b, a ≤ b → b < xs.length → xs.getD a 0 ≤ xs.getD (xs.length - 1) 0 → xs.getD b 0 ≤ xs.getD (xs.length - 1) 0) :
    Calls Try.prog 39 #[va] w (Found xs.length (fun i => decide (xs.getD i 0 ≤ xs.getD (xs.length - 1) 0)) w) := by
  obtain ⟨A, c, b, off, rfl, hnc, hcm, ha, hcell⟩ := h
  obtain ⟨n, hxn⟩ : ∃ n, n = xs.length := ⟨_, rfl⟩
  rw [← hxn] at hn hnc ha hmono ⊢
  have HX := Lib.hid hxn
  have HC := Lib.hid hcell
  have HA := Lib.hid ha
  have HM := Lib.hid hmono
  clear hcell ha hxn hmono
  unfold maxLen at hcm
  go_enter Try.func39, Try.ntmps39
  go_wp2_with fail
  refine (search_at _ 53 _ n (fun i => decide (xs.getD i 0 ≤ xs.getD (n - 1) 0)) _ rfl enters_begin1 (by omega) ?hf ?hmono).mono ?_
  case hmono =>
    intro i j hij hj hp
    simp only [decide_eq_true_iff] at hp ⊢
    exact HM.out i j hij hj hp
  case hf =>
    intro W i hbW hi
    obtain ⟨rfl, hbl⟩ := HA.out (by omega)
    have q1 : W.cell? ⟨w.heap.size, 0, none⟩ = some (.slice (some ⟨b, off, none⟩) n c) := (hbW.cell (p := ⟨w.heap.size, 0, none⟩) (by simp)).trans (by simp [go_sem])
    have q3 : ∀ i, i < n → W.cell? ⟨b, off + i, none⟩ = some (.int .i64 (xs.getD i 0)) := fun i hi =>
      (hbW.cell (p := ⟨b, off + i, none⟩) (by simp; omega)).trans ((World.cell?_alloc_lt _ _ _ (by simp; omega)).trans (HC.out i _ (getD_at (by rw [← HX.out]; exact hi))))
    exact (begin1_any W _ b off n c i _ _ hi hn q1 (q3 i hi) (q3 (n - 1) (by omega))).mono fun e w' ⟨h1, h2⟩ => ⟨h1, hbW.trans (h2.mono (by have := hbW.size; simpa using this))⟩
  rintro e w1 ⟨i, rfl, hin, hf1, hf2, hb1⟩
  have hbw : Below w.heap.size w w1 := ((Below.refl _ _).alloc (Nat.le_refl _) _).trans (hb1.mono (by simp))
  have HF1 := Lib.hid hf1
  have HF2 := Lib.hid hf2
  clear hf1 hf2 hb1
  go_wp2_with fail
  go_ret
  exact ⟨i, rfl, hin, HF1.out, HF2.out, hbw⟩

end Go.Proofs.Ytgnjncadecelhaa

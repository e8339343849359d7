/-
  What is proved here: the walk of the law FnBagSorts, for lists of at most 2^20 elements; no other condition.
-/
import Derived.Test.YtgnjncadecelhaaBag
import Derived.Test.YtgnjncadecelhaaOrders
import Derived.Test.YtgnjncadecelhaaBagLaws
import Derived.Test.YtgnjncadecelhaaLess
import Derived.Test.YtgnjncadecelhaaSub
import Derived.Test.YtgnjncadecelhaaSame
namespace Go.Proofs.Ytgnjncadecelhaa
open Go.RowKit
set_option linter.unusedVariables false

theorem quiet_eq {P : Program} {f : FuncId} {args : Array Value} {w : World} {n : Nat} {v : Value}
    (h : Calls P f args (w.drewN n) fun e w' => e = .returned v ∧ w.drewN n = w') : Calls P f args (w.drewN n) fun e w'' => e = .returned v ∧ ∃ m, w'' = w.drewN m :=
  h.mono fun _ _ ⟨he, hm⟩ => ⟨he, n, hm.symm⟩

set_option maxRecDepth 100000 in
set_option maxHeartbeats 2000000 in
theorem walk_FnBagSorts (v0 : Value) (x0 : List Int) (w : World) (h0 : Ro w v0 x0) (f0 : ∀ x ∈ x0, (Lit.int .i64 x).wf = true) (n0 : x0.length ≤ 1048576) :
    Calls Try.prog 7 #[v0] w fun e w' => e = .returned (.bool true) ∧ Below w.heap.size w w' := by
  have R_v0 := Lib.hid h0
  clear h0 f0
  obtain ⟨A0, c0, b0, off0, rfl, hnc0, hcm0, -, -⟩ := R_v0.out.shape
  obtain ⟨l0, hl0⟩ : ∃ n, n = x0.length := ⟨_, rfl⟩
  rw [← hl0] at R_v0 n0 hnc0 ⊢
  have HL0 := Lib.hid hl0
  clear hl0
  unfold maxLen at hcm0
  go_enter Try.func7, Try.ntmps7
  go_wp2_with fail
  refine (orders_any 0 _ x0 _ R_v0.out (by rw [← HL0.out]; omega)).mono ?_
  rintro e W1 ⟨u1, rfl, o1, b1⟩
  replace R_v0 := Lib.hid (R_v0.out.below b1)
  have bt1 : Below w.heap.size w W1 := b1
  clear b1
  have R_u1 := Lib.hid o1.ros2
  clear o1
  go_wp2_with fail
  refine (bag_any _ _ [] _ _ (ro_nil _) R_u1.out (by rw [List.length_map, ← HL0.out]; simp; omega)).mono ?_
  rw [show bagRun ([], asc []) (x0.map fun v => ((0 : Int), v)) = (toldPut [] x0, asc x0) from (run_puts x0 [] []).trans (by simp)]
  rintro e W2 ⟨t, bg, rfl, o2, p2, -, b2⟩
  replace R_v0 := Lib.hid (R_v0.out.below b2)
  replace R_u1 := Lib.hid (R_u1.out.below b2)
  have bt2 : Below w.heap.size w W2 := bt1.trans (b2.mono bt1.size)
  clear bt1
  clear b2
  have R_t : Hid (Ro W2 t (toldPut [] x0)) := o2.ro
  have R_bg : Hid (Ro W2 bg (asc x0)) := p2.ro
  clear o2 p2
  obtain ⟨A_t, c_t, b_t, off_t, rfl, hnc_t, hcm_t, -, -⟩ := R_t.out.shape
  obtain ⟨m1, h_m1⟩ : ∃ n, n = (toldPut [] x0).length := ⟨_, rfl⟩
  rw [← h_m1] at R_t hnc_t ⊢
  have b_m1 : m1 ≤ 1048576 := by rw [h_m1]; rw [toldPut_len, ← HL0.out]; exact n0
  have H_m1 := Lib.hid h_m1
  clear h_m1
  unfold maxLen at hcm_t
  obtain rfl : m1 = l0 := by have h := H_m1.out; rw [toldPut_len, ← HL0.out] at h; exact h
  clear R_u1
  go_wp2_with fail
  refine (ascending_any _ x0 _ R_v0.out (by rw [← HL0.out]; omega)).mono ?_
  rintro e W3 ⟨u2, rfl, o3, b3⟩
  replace R_v0 := Lib.hid (R_v0.out.below b3)
  replace R_t := Lib.hid (R_t.out.below b3)
  replace R_bg := Lib.hid (R_bg.out.below b3)
  have bt3 : Below w.heap.size w W3 := bt2.trans (b3.mono bt2.size)
  clear bt2
  clear b3
  have R_u2 := Lib.hid o3.ro
  clear o3
  go_wp2_with fail
  refine (same_yes _ _ _ _ _ R_bg.out R_u2.out rfl).mono ?_
  rintro e W4 ⟨rfl, b4⟩
  replace R_v0 := Lib.hid (R_v0.out.below b4)
  replace R_t := Lib.hid (R_t.out.below b4)
  replace R_bg := Lib.hid (R_bg.out.below b4)
  replace R_u2 := Lib.hid (R_u2.out.below b4)
  have bt4 : Below w.heap.size w W4 := bt3.trans (b4.mono bt3.size)
  clear bt3
  clear b4
  clear R_u2
  clear R_bg
  clear H_m1 b_m1
  go_wp2_with fail
  go_loopg [27] m1 (fun kx s27 wr => ∃ k : Nat, k ≤ m1 ∧ s27 = .int .i64 k ∧ m1 - k ≤ kx ∧ Below W4.heap.size W4 wr)
  case atStart => exact ⟨0, Nat.zero_le _, rfl, by omega, Below.refl _ _⟩
  case round =>
    obtain ⟨k, hk, rfl, hkk, hb⟩ := hrel
    by_cases hlt : k < m1
    · obtain ⟨x, hx⟩ := get_some HL0.out hlt
      have ht : (toldPut [] x0)[k]? = some (((x0.take k).countP fun y => decide (y < x) : Nat) : Int) := toldPut_at x0 [] k x hx
      obtain ⟨c, hc⟩ : ∃ c : Nat, c = (x0.take k).countP fun y => decide (y < x) := ⟨_, rfl⟩
      rw [← hc] at ht
      obtain ⟨b1, o1, rfl, hc1, -⟩ := (R_t.out.below hb).at ht
      obtain ⟨b2, o2, rfl, hc2, -⟩ := (R_v0.out.below hb).at hx
      have RK := Lib.hid ((R_v0.out.below hb).takeAt (i := k) (by omega))
      have HLK := Lib.hid (show (x0.take k).length ≤ 17592186044416 by rw [List.length_take, ← HL0.out]; omega)
      have HCC := Lib.hid hc
      have z1 : (0 : Int) ≤ (k : Int) := by omega
      have z2 : (k : Int) < (m1 : Int) := by omega
      have z3 : (k : Int) ≤ (c0 : Int) := by omega
      have z4 : (k : Int) ≤ (m1 : Int) := by omega
      have z5 : (m1 : Int) ≤ (c0 : Int) := by omega
      have hq : ∀ q, Calls Try.prog 26 #[.slice (some ⟨b2, o2, none⟩) k c0, .int .i64 x] (wr.drewN q) fun e w'' => e = .returned (.int .i64 (c : Int)) ∧ ∃ m, w'' = wr.drewN m := fun q => quiet_eq (by
        have h := less_any (.slice (some ⟨b2, o2, none⟩) k c0) (x0.take k) x (wr.drewN q) (RK.out.below (below_drawn (Below.refl _ _) q)) HLK.out
        rw [← HCC.out] at h
        exact h)
      have HQ := Lib.hid hq
      clear hx ht hc hq
      go_wp2_with fail
      go_quiet ((go_at_call 26; exact HQ.out _))
      go_wp2_with fail
      go_roundg (m1 - (k + 1))
      case measure => omega
      case rel => exact ⟨k + 1, by omega, by go_num, by omega, below_drawn hb _⟩
    · replace bt4 : Below w.heap.size w wr := bt4.trans (hb.mono bt4.size)
      clear R_v0 R_t hb
      go_wp2_with fail
      refine (works_any _).mono ?_
      rintro e W9 ⟨rfl, b9⟩
      go_wp2_with fail
      go_ret
      exact ⟨rfl, bt4.trans (b9.mono bt4.size)⟩

end Go.Proofs.Ytgnjncadecelhaa

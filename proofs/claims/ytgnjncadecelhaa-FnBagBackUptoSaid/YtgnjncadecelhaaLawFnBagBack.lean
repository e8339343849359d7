/-
  What is proved here: the walk of the law FnBagBack, for lists of at most 2^20 elements; no other condition.
-/
import Derived.Test.YtgnjncadecelhaaBag
import Derived.Test.YtgnjncadecelhaaOrders
import Derived.Test.YtgnjncadecelhaaBagLaws
import Derived.Test.YtgnjncadecelhaaMir
import Derived.Test.YtgnjncadecelhaaSub
import Derived.Test.YtgnjncadecelhaaSame
namespace Go.Proofs.Ytgnjncadecelhaa
open Go.RowKit
set_option linter.unusedVariables false

set_option maxRecDepth 100000 in
set_option maxHeartbeats 2000000 in
theorem walk_FnBagBack (v0 : Value) (x0 : List Int) (v1 : Value) (x1 : List Int) (w : World) (h0 : Ro w v0 x0) (f0 : ∀ x ∈ x0, (Lit.int .i64 x).wf = true) (n0 : x0.length ≤ 1048576) (h1 : Ro w v1 x1) (f1 : ∀ x ∈ x1, (Lit.int .i64 x).wf = true) (n1 : x1.length ≤ 1048576) :
    Calls Try.prog 4 #[v0, v1] w fun e w' => e = .returned (.bool true) ∧ Below w.heap.size w w' := by
  have R_v0 := Lib.hid h0
  clear h0 f0
  have R_v1 := Lib.hid h1
  clear h1 f1
  obtain ⟨A0, c0, b0, off0, rfl, hnc0, hcm0, -, -⟩ := R_v0.out.shape
  obtain ⟨l0, hl0⟩ : ∃ n, n = x0.length := ⟨_, rfl⟩
  rw [← hl0] at R_v0 n0 hnc0 ⊢
  have HL0 := Lib.hid hl0
  clear hl0
  unfold maxLen at hcm0
  obtain ⟨A1, c1, b1, off1, rfl, hnc1, hcm1, -, -⟩ := R_v1.out.shape
  obtain ⟨l1, hl1⟩ : ∃ n, n = x1.length := ⟨_, rfl⟩
  rw [← hl1] at R_v1 n1 hnc1 ⊢
  have HL1 := Lib.hid hl1
  clear hl1
  unfold maxLen at hcm1
  have B_v0 := R_v0
  have B_v1 := R_v1
  go_enter Try.func4, Try.ntmps4
  go_wp2_with fail
  refine (orders_some 0 _ x1 _ R_v1.out (by rw [← HL1.out]; omega)).mono ?_
  rintro e W1 ⟨g1, k1, cap1, rfl, o1, bt1⟩
  have hk1 : k1 = l1 := by have h := o1.lt.2.2.1; rw [List.length_map, ← HL1.out] at h; exact h.symm
  subst hk1
  have hg1 := o1.lt.1
  have hg1l := o1.lt.2.1
  have HO1 := Lib.hid o1
  replace R_v0 := Lib.hid (R_v0.out.below bt1)
  replace R_v1 := Lib.hid (R_v1.out.below bt1)
  have hz1 := bt1.size
  clear o1
  go_wp2_with fail
  refine (mirrored_any _ x1 _ R_v1.out (by rw [← HL1.out]; omega)).mono ?_
  rintro e W2 ⟨u2, rfl, o2, b2⟩
  replace R_v0 := Lib.hid (R_v0.out.below b2)
  replace R_v1 := Lib.hid (R_v1.out.below b2)
  replace HO1 := Lib.hid (HO1.out.below b2)
  have R_u2 := Lib.hid o2.ro
  have bt2 : Below w.heap.size w W2 := bt1.trans (b2.mono bt1.size)
  have hz2 := b2.size
  clear o2 b2 bt1
  go_wp2_with fail
  refine (orders_some 1 _ x1.reverse _ R_u2.out (by rw [List.length_reverse, ← HL1.out]; omega)).mono ?_
  rintro e W3 ⟨g3, k3, cap3, rfl, o3, b3⟩
  have hk3 : k3 = k1 := by have h := o3.lt.2.2.1; rw [List.length_map, List.length_reverse, ← HL1.out] at h; exact h.symm
  subst hk3
  replace R_v0 := Lib.hid (R_v0.out.below b3)
  replace R_v1 := Lib.hid (R_v1.out.below b3)
  replace HO1 := Lib.hid (HO1.out.below b3)
  have bt3 : Below w.heap.size w W3 := bt2.trans (b3.mono bt2.size)
  have hz3 := b3.size
  have hrow : W3.ownsRow w.heap.size 38 2 (.slice (some ⟨g1, 0, none⟩) k3 cap1) k3 (cellsK enc2 (puts x1)) := by
    have h := HO1.out
    unfold OwnK at h
    rw [List.length_map, ← HL1.out] at h
    exact h
  have hsrc : Src W3 2 (some ⟨g3, 0, none⟩) k3 (cellsK enc2 (takes x1.reverse)) := (RoK.src len_enc2 (by omega) (o3.ro len_enc2)).2
  have HRW := Lib.hid hrow
  have HSR := Lib.hid hsrc
  clear o3 b3 bt2 hrow hsrc R_u2 HO1
  go_wp2_with (at_builtin; refine wpList_app _ rfl (.tmp 12) (.tmp 15) rfl orders_ok w.heap.size g1 k3 cap1 (cellsK enc2 (puts x1)) (by rfl) HRW.out (some ⟨g3, 0, none⟩) k3 cap3 (cellsK enc2 (takes x1.reverse)) (by rfl) HSR.out (by unfold maxLen; omega) (by omega) (by omega) (k3 + k3) rfl _ rfl ?_; intro g4 cap4 W4 hown4 hgrow4 hat4)
  have hO4 : OwnK 2 enc2 38 w.heap.size W4 (.slice (some ⟨g4, 0, none⟩) (k3 + k3) cap4) (puts x1 ++ takes x1.reverse) := by
    unfold OwnK
    rw [cellsK_append, List.length_append]
    have e1 : (puts x1).length = k3 := by unfold puts; rw [List.length_map, ← HL1.out]
    have e2 : (takes x1.reverse).length = k3 := by unfold takes; rw [List.length_map, List.length_reverse, ← HL1.out]
    rw [e1, e2]
    exact hown4
  have bt4 : Below w.heap.size w W4 := bt3.grown hgrow4 bt3.size (fun k hk => by injection hk with hk; omega)
  have R_l := Lib.hid hO4.ros2
  clear hown4 hgrow4 hat4 hO4 HRW HSR R_v0 R_v1 bt3
  have R_v0 := Lib.hid (B_v0.out.below bt4)
  have hz4 := bt4.size
  refine (bag_some _ _ x0 _ _ R_v0.out R_l.out (by unfold puts takes; rw [List.length_append, List.length_map, List.length_map, List.length_reverse, ← HL0.out, ← HL1.out]; omega)).mono ?_
  rw [run_back]
  rintro e W5 ⟨gt, kt, ct, gg, kg, cg, rfl, ot, og, -, b5⟩
  have hkt : kt = k3 + k3 := by have h := (own_lt ot).2.2.1; rw [List.length_append, toldPut_len, List.length_replicate, ← HL1.out] at h; exact h.symm
  subst hkt
  obtain ⟨-, -, -, hct, hcm⟩ := own_lt ot
  unfold maxLen at hcm
  have bt5 : Below w.heap.size w W5 := bt4.trans (b5.mono hz4)
  have R_t := Lib.hid ot.ro
  have R_g := Lib.hid og.ro
  have HOT := Lib.hid ot
  clear ot og b5 R_l R_v0 bt4
  have hB : (((k3 + k3 : Nat) : Int) != 2 * (k3 : Int)) = false := by simp; omega
  have y0 : (0 : Int) ≤ (k3 : Int) := by omega
  have y1 : (k3 : Int) ≤ ((k3 + k3 : Nat) : Int) := by omega
  have y2 : (k3 : Int) ≤ (ct : Int) := by omega
  have y3 : ((k3 + k3 : Nat) : Int) ≤ (ct : Int) := by omega
  have hcl : ct = k3 → k3 = 0 := fun h => by omega
  by_cases hc : ct = k3
  · obtain rfl : k3 = 0 := hcl hc
    subst hc
    clear hcl
    go_wp2_with fail
    go_loopg [31] 0 (fun kx s31 wr => s31 = .int .i64 0 ∧ W5 = wr)
    case atStart => exact ⟨rfl, rfl⟩
    case round =>
      obtain ⟨rfl, rfl⟩ := hrel
      go_wp2_with fail
      refine (ascending_any _ x0 _ (B_v0.out.below bt5) (by rw [← HL0.out]; omega)).mono ?_
      rintro e W6 ⟨u6, rfl, o6, b6⟩
      have bt6 : Below w.heap.size w W6 := bt5.trans (b6.mono bt5.size)
      have R_g6 := Lib.hid (R_g.out.below b6)
      have R_u6 := Lib.hid o6.ro
      clear o6 b6
      go_wp2_with fail
      refine (same_yes _ _ _ _ _ R_g6.out R_u6.out rfl).mono ?_
      rintro e W7 ⟨rfl, b7⟩
      have bt7 : Below w.heap.size w W7 := bt6.trans (b7.mono bt6.size)
      clear b7
      go_wp2_with fail
      refine (works_any _).mono ?_
      rintro e W8 ⟨rfl, b8⟩
      go_wp2_with fail
      go_ret
      exact ⟨rfl, bt7.trans (b8.mono bt7.size)⟩
  · clear hcl
    go_wp2_with fail
    go_loopg [31] k3 (fun kx s31 wr => ∃ k : Nat, k ≤ k3 ∧ s31 = .int .i64 k ∧ k3 - k ≤ kx ∧ W5 = wr)
    case atStart => exact ⟨0, Nat.zero_le _, rfl, by omega, rfl⟩
    case round =>
      obtain ⟨k, hk, rfl, hkk, rfl⟩ := hrel
      by_cases hlt : k < k3
      · have hc1 := (own_cell HOT.out (k := k3 + k) (x := 1) (by
          rw [List.getElem?_append_right (by rw [toldPut_len, ← HL1.out]; omega), toldPut_len, ← HL1.out, List.getElem?_replicate, if_pos (by omega)])).1
        go_wp2_with fail
        go_roundg (k3 - (k + 1))
        case measure => omega
        case rel => exact ⟨k + 1, by omega, by go_num, by omega, rfl⟩
      · go_wp2_with fail
        refine (ascending_any _ x0 _ (B_v0.out.below bt5) (by rw [← HL0.out]; omega)).mono ?_
        rintro e W6 ⟨u6, rfl, o6, b6⟩
        have bt6 : Below w.heap.size w W6 := bt5.trans (b6.mono bt5.size)
        have R_g6 := Lib.hid (R_g.out.below b6)
        have R_u6 := Lib.hid o6.ro
        clear o6 b6
        go_wp2_with fail
        refine (same_yes _ _ _ _ _ R_g6.out R_u6.out rfl).mono ?_
        rintro e W7 ⟨rfl, b7⟩
        have bt7 : Below w.heap.size w W7 := bt6.trans (b7.mono bt6.size)
        clear b7
        go_wp2_with fail
        refine (works_any _).mono ?_
        rintro e W8 ⟨rfl, b8⟩
        go_wp2_with fail
        go_ret
        exact ⟨rfl, bt7.trans (b8.mono bt7.size)⟩

end Go.Proofs.Ytgnjncadecelhaa

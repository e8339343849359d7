/-
  What is proved here: the walk of the exact law on Minus; no condition.
-/
import Derived.Test.YtgpkobpjgmdegaaMeet
import Derived.Test.YtgpkobpjgmdegaaSpecMeet
namespace Go.Proofs.Ytgpkobpjgmdegaa
open Go.RowKit
set_option linter.unusedVariables false

theorem minusX_any (v0 : Value) (x0 : List Int) (v1 : Value) (x1 : List Int) (w : World) (h0 : Ro w v0 x0) (h1 : Ro w v1 x1) (b0 : x0.length ≤ 1048576) (b1 : x1.length ≤ 1048576) :
    Calls Try.prog 30 #[v0, v1] w (Made 3 (minus x0 x1) w) := minus_any v0 v1 x0 x1 w h0 h1 (by omega) (by omega)
theorem specMinusX_any (v0 : Value) (x0 : List Int) (v1 : Value) (x1 : List Int) (w : World) (h0 : Ro w v0 x0) (h1 : Ro w v1 x1) (b0 : x0.length ≤ 1048576) (b1 : x1.length ≤ 1048576) :
    Calls Try.prog 29 #[v0, v1] w (Made 3 (minus x0 x1) w) := specMinus_any v0 v1 x0 x1 w h0 h1 (by omega) (by omega)
theorem ylen_FnExactMinus (x0 x1 : List Int) (h0 : x0.length ≤ 1048576) (h1 : x1.length ≤ 1048576) : (minus x0 x1).length ≤ 2097152 := by
  have := minus_len x0 x1
  omega

set_option maxRecDepth 100000 in
set_option maxHeartbeats 4000000 in
theorem walk_FnExactMinus (v0 : Value) (x0 : List Int) (v1 : Value) (x1 : List Int) (w : World) (h0 : Ro w v0 x0) (f0 : ∀ x ∈ x0, (Lit.int .i64 x).wf = true) (n0 : x0.length * 8 ≤ 140737488351232) (h1 : Ro w v1 x1) (f1 : ∀ x ∈ x1, (Lit.int .i64 x).wf = true) (n1 : x1.length * 8 ≤ 140737488351232) :
    Calls Try.prog 8 #[v0, v1] w fun e w' => e = .returned (.bool true) ∧ Below w.heap.size w w' := by
  have r0 := Lib.hid h0
  have r1 := Lib.hid h1
  obtain ⟨A0, c0, b0, off0, rfl, hnc0, hcm0, ha0, hcell0⟩ := h0
  obtain ⟨l0, hl0⟩ : ∃ n, n = x0.length := ⟨_, rfl⟩
  rw [← hl0] at r0 n0 ⊢
  have HL0 := Lib.hid hl0
  clear f0 ha0 hcell0 hnc0 hl0
  unfold maxLen at hcm0
  obtain ⟨A1, c1, b1, off1, rfl, hnc1, hcm1, ha1, hcell1⟩ := h1
  obtain ⟨l1, hl1⟩ : ∃ n, n = x1.length := ⟨_, rfl⟩
  rw [← hl1] at r1 n1 ⊢
  have HL1 := Lib.hid hl1
  clear f1 ha1 hcell1 hnc1 hl1
  unfold maxLen at hcm1
  by_cases big0 : 1048576 < (l0 : Int)
  · go_enter Try.func8, Try.ntmps8
    go_wp2_with fail
    go_ret
    exact ⟨rfl, Below.refl _ _⟩
  by_cases big1 : 1048576 < (l1 : Int)
  · go_enter Try.func8, Try.ntmps8
    go_wp2_with fail
    go_ret
    exact ⟨rfl, Below.refl _ _⟩
  have s0 : l0 ≤ 1048576 := by omega
  have xl0 : x0.length ≤ 1048576 := by rw [← HL0.out]; exact s0
  have s1 : l1 ≤ 1048576 := by omega
  have xl1 : x1.length ≤ 1048576 := by rw [← HL1.out]; exact s1
  generalize hys : minus x0 x1 = ys
  have hyl : ys.length ≤ 2097152 := by rw [← hys]; exact ylen_FnExactMinus x0 x1 (by rw [← HL0.out]; exact s0) (by rw [← HL1.out]; exact s1)
  have HY := Lib.hid hys
  clear hys
  go_enter Try.func8, Try.ntmps8
  go_wp2_with fail
  refine (toIntS_any _ x0 _ r0.out (by rw [← HL0.out]; omega)).mono ?_
  rintro e W1 ⟨s0v, rfl, o_s0v, b1⟩
  have bt1 : Below w.heap.size w W1 := b1
  have z1 := b1.size
  have zt1 := bt1.size
  go_wp2_with fail
  refine (toIntS_any _ x1 _ (Ro.below r1.out bt1) (by rw [← HL1.out]; omega)).mono ?_
  rintro e W2 ⟨s1v, rfl, o_s1v, b2⟩
  have o_s0v_2 := o_s0v.below b2
  clear o_s0v
  have bt2 : Below w.heap.size w W2 := bt1.trans (b2.mono bt1.size)
  have z2 := b2.size
  have zt2 := bt2.size
  go_wp2_with fail
  refine (specMinusX_any _ x0 _ x1 _ o_s0v_2.ro o_s1v.ro (by rw [← HL0.out]; omega) (by rw [← HL1.out]; omega)).mono ?_
  rw [HY.out]
  rintro e W3 ⟨wv, rfl, o_wv, b3⟩
  have o_s0v_3 := o_s0v_2.below b3
  clear o_s0v_2
  have o_s1v_3 := o_s1v.below b3
  clear o_s1v
  have bt3 : Below w.heap.size w W3 := bt2.trans (b3.mono bt2.size)
  have z3 := b3.size
  have zt3 := bt3.size
  have lt_wv := Lib.hid (World.ownsRow.lt o_wv)
  go_wp2_with fail
  refine (toIntS_any _ x0 _ (Ro.below r0.out bt3) (by rw [← HL0.out]; omega)).mono ?_
  rintro e W4 ⟨x0v, rfl, o_x0v, b4⟩
  have o_s0v_4 := o_s0v_3.below b4
  clear o_s0v_3
  have o_s1v_4 := o_s1v_3.below b4
  clear o_s1v_3
  have o_wv_4 := o_wv.below b4
  clear o_wv
  have bt4 : Below w.heap.size w W4 := bt3.trans (b4.mono bt3.size)
  have z4 := b4.size
  have zt4 := bt4.size
  have lt_x0v := Lib.hid (World.ownsRow.lt o_x0v)
  go_wp2_with fail
  refine (toIntS_any _ x1 _ (Ro.below r1.out bt4) (by rw [← HL1.out]; omega)).mono ?_
  rintro e W5 ⟨x1v, rfl, o_x1v, b5⟩
  have o_s0v_5 := o_s0v_4.below b5
  clear o_s0v_4
  have o_s1v_5 := o_s1v_4.below b5
  clear o_s1v_4
  have o_wv_5 := o_wv_4.below b5
  clear o_wv_4
  have o_x0v_5 := o_x0v.below b5
  clear o_x0v
  have bt5 : Below w.heap.size w W5 := bt4.trans (b5.mono bt4.size)
  have z5 := b5.size
  have zt5 := bt5.size
  have lt_x1v := Lib.hid (World.ownsRow.lt o_x1v)
  go_wp2_with fail
  refine (minusX_any _ x0 _ x1 _ o_x0v_5.ro o_x1v.ro (by rw [← HL0.out]; omega) (by rw [← HL1.out]; omega)).mono ?_
  rw [HY.out]
  rintro e W6 ⟨gv, rfl, o_gv, b6⟩
  have o_s0v_6 := o_s0v_5.below b6
  clear o_s0v_5
  have o_s1v_6 := o_s1v_5.below b6
  clear o_s1v_5
  have o_wv_6 := o_wv_5.below b6
  clear o_wv_5
  have o_x0v_6 := o_x0v_5.below b6
  clear o_x0v_5
  have o_x1v_6 := o_x1v.below b6
  clear o_x1v
  have bt6 : Below w.heap.size w W6 := bt5.trans (b6.mono bt5.size)
  have z6 := b6.size
  have zt6 := bt6.size
  have lt_gv := Lib.hid (World.ownsRow.lt o_gv)
  go_wp2_with fail
  refine (eqIntS_any _ _ _ _ o_gv.ro o_wv_6.ro).mono ?_
  rintro e W7 ⟨rfl, b7⟩
  have o_s0v_7 := o_s0v_6.below b7
  clear o_s0v_6
  have o_s1v_7 := o_s1v_6.below b7
  clear o_s1v_6
  have o_wv_7 := o_wv_6.below b7
  clear o_wv_6
  have o_x0v_7 := o_x0v_6.below b7
  clear o_x0v_6
  have o_x1v_7 := o_x1v_6.below b7
  clear o_x1v_6
  have o_gv_7 := o_gv.below b7
  clear o_gv
  have bt7 : Below w.heap.size w W7 := bt6.trans (b7.mono bt6.size)
  have z7 := b7.size
  have zt7 := bt7.size
  go_wp2_with fail
  refine (toIntS_any _ x0 _ (Ro.below r0.out bt7) (by rw [← HL0.out]; omega)).mono ?_
  rintro e W8 ⟨t0v, rfl, o_t0v, b8⟩
  have o_s0v_8 := o_s0v_7.below b8
  clear o_s0v_7
  have o_s1v_8 := o_s1v_7.below b8
  clear o_s1v_7
  have o_wv_8 := o_wv_7.below b8
  clear o_wv_7
  have o_x0v_8 := o_x0v_7.below b8
  clear o_x0v_7
  have o_x1v_8 := o_x1v_7.below b8
  clear o_x1v_7
  have o_gv_8 := o_gv_7.below b8
  clear o_gv_7
  have bt8 : Below w.heap.size w W8 := bt7.trans (b8.mono bt7.size)
  have z8 := b8.size
  have zt8 := bt8.size
  go_wp2_with fail
  refine (eqIntS_any _ _ _ _ o_x0v_8.ro o_t0v.ro).mono ?_
  rintro e W9 ⟨rfl, b9⟩
  have o_s0v_9 := o_s0v_8.below b9
  clear o_s0v_8
  have o_s1v_9 := o_s1v_8.below b9
  clear o_s1v_8
  have o_wv_9 := o_wv_8.below b9
  clear o_wv_8
  have o_x0v_9 := o_x0v_8.below b9
  clear o_x0v_8
  have o_x1v_9 := o_x1v_8.below b9
  clear o_x1v_8
  have o_gv_9 := o_gv_8.below b9
  clear o_gv_8
  have o_t0v_9 := o_t0v.below b9
  clear o_t0v
  have bt9 : Below w.heap.size w W9 := bt8.trans (b9.mono bt8.size)
  have z9 := b9.size
  have zt9 := bt9.size
  go_wp2_with fail
  refine (toIntS_any _ x1 _ (Ro.below r1.out bt9) (by rw [← HL1.out]; omega)).mono ?_
  rintro e W10 ⟨t1v, rfl, o_t1v, b10⟩
  have o_s0v_10 := o_s0v_9.below b10
  clear o_s0v_9
  have o_s1v_10 := o_s1v_9.below b10
  clear o_s1v_9
  have o_wv_10 := o_wv_9.below b10
  clear o_wv_9
  have o_x0v_10 := o_x0v_9.below b10
  clear o_x0v_9
  have o_x1v_10 := o_x1v_9.below b10
  clear o_x1v_9
  have o_gv_10 := o_gv_9.below b10
  clear o_gv_9
  have o_t0v_10 := o_t0v_9.below b10
  clear o_t0v_9
  have bt10 : Below w.heap.size w W10 := bt9.trans (b10.mono bt9.size)
  have z10 := b10.size
  have zt10 := bt10.size
  go_wp2_with fail
  refine (eqIntS_any _ _ _ _ o_x1v_10.ro o_t1v.ro).mono ?_
  rintro e W11 ⟨rfl, b11⟩
  have o_s0v_11 := o_s0v_10.below b11
  clear o_s0v_10
  have o_s1v_11 := o_s1v_10.below b11
  clear o_s1v_10
  have o_wv_11 := o_wv_10.below b11
  clear o_wv_10
  have o_x0v_11 := o_x0v_10.below b11
  clear o_x0v_10
  have o_x1v_11 := o_x1v_10.below b11
  clear o_x1v_10
  have o_gv_11 := o_gv_10.below b11
  clear o_gv_10
  have o_t0v_11 := o_t0v_10.below b11
  clear o_t0v_10
  have o_t1v_11 := o_t1v.below b11
  clear o_t1v
  have bt11 : Below w.heap.size w W11 := bt10.trans (b11.mono bt10.size)
  have z11 := b11.size
  have zt11 := bt11.size
  clear o_s0v_11
  clear o_s1v_11
  clear o_t0v_11
  clear o_t1v_11
  go_wp2_with fail
  refine (markIntS_any _ _ _ _ _ o_x0v_11 (by omega) (by omega) (by omega)).mono ?_
  rintro e W12 ⟨rfl, m_x0v, g12⟩
  have o_wv_12 := o_wv_11.apart g12 (fun k h1 h2 => by have h3 := lt_wv.out k h1; have h4 := lt_x0v.out k h2; omega)
  clear o_wv_11
  have o_x1v_12 := o_x1v_11.apart g12 (fun k h1 h2 => by have h3 := lt_x1v.out k h1; have h4 := lt_x0v.out k h2; omega)
  clear o_x1v_11
  have o_gv_12 := o_gv_11.apart g12 (fun k h1 h2 => by have h3 := lt_gv.out k h1; have h4 := lt_x0v.out k h2; omega)
  clear o_gv_11
  have bt12 : Below w.heap.size w W12 := bt11.grown g12 bt11.size (fun k hk => by have h4 := lt_x0v.out k hk; omega)
  have z12 := g12.size
  have zt12 := bt12.size
  go_wp2_with fail
  refine (markIntS_any _ _ _ _ _ o_x1v_12 (by omega) (by omega) (by omega)).mono ?_
  rintro e W13 ⟨rfl, m_x1v, g13⟩
  have o_wv_13 := o_wv_12.apart g13 (fun k h1 h2 => by have h3 := lt_wv.out k h1; have h4 := lt_x1v.out k h2; omega)
  clear o_wv_12
  have o_x0v_13 := m_x0v.apart g13 (fun k h1 h2 => by have h3 := lt_x0v.out k h1; have h4 := lt_x1v.out k h2; omega)
  clear m_x0v
  have o_gv_13 := o_gv_12.apart g13 (fun k h1 h2 => by have h3 := lt_gv.out k h1; have h4 := lt_x1v.out k h2; omega)
  clear o_gv_12
  have bt13 : Below w.heap.size w W13 := bt12.grown g13 bt12.size (fun k hk => by have h4 := lt_x1v.out k hk; omega)
  have z13 := g13.size
  have zt13 := bt13.size
  clear o_x0v_13
  clear m_x1v
  go_wp2_with fail
  refine (eqIntS_any _ _ _ _ o_gv_13.ro o_wv_13.ro).mono ?_
  rintro e W14 ⟨rfl, b14⟩
  have o_wv_14 := o_wv_13.below b14
  clear o_wv_13
  have o_gv_14 := o_gv_13.below b14
  clear o_gv_13
  have bt14 : Below w.heap.size w W14 := bt13.trans (b14.mono bt13.size)
  have z14 := b14.size
  have zt14 := bt14.size
  go_wp2_with fail
  refine (markIntS_any _ _ _ _ _ o_gv_14 (by omega) (by omega) (by omega)).mono ?_
  rintro e W15 ⟨rfl, m_gv, g15⟩
  have o_wv_15 := o_wv_14.apart g15 (fun k h1 h2 => by have h3 := lt_wv.out k h1; have h4 := lt_gv.out k h2; omega)
  clear o_wv_14
  have bt15 : Below w.heap.size w W15 := bt14.grown g15 bt14.size (fun k hk => by have h4 := lt_gv.out k hk; omega)
  have z15 := g15.size
  have zt15 := bt15.size
  go_wp2_with fail
  refine (heldIntS_any _ _ ys.length _ m_gv.ro (by omega) (by omega) (by omega)).mono ?_
  rintro e w' ⟨rfl, rfl⟩
  go_wp2_with fail
  refine (toIntS_any _ x0 _ (Ro.below r0.out bt15) (by rw [← HL0.out]; omega)).mono ?_
  rintro e W16 ⟨u0v, rfl, o_u0v, b16⟩
  have o_wv_16 := o_wv_15.below b16
  clear o_wv_15
  have o_gv_16 := m_gv.below b16
  clear m_gv
  have bt16 : Below w.heap.size w W16 := bt15.trans (b16.mono bt15.size)
  have z16 := b16.size
  have zt16 := bt16.size
  go_wp2_with fail
  refine (toIntS_any _ x1 _ (Ro.below r1.out bt16) (by rw [← HL1.out]; omega)).mono ?_
  rintro e W17 ⟨u1v, rfl, o_u1v, b17⟩
  have o_wv_17 := o_wv_16.below b17
  clear o_wv_16
  have o_gv_17 := o_gv_16.below b17
  clear o_gv_16
  have o_u0v_17 := o_u0v.below b17
  clear o_u0v
  have bt17 : Below w.heap.size w W17 := bt16.trans (b17.mono bt16.size)
  have z17 := b17.size
  have zt17 := bt17.size
  go_wp2_with fail
  refine (minusX_any _ x0 _ x1 _ o_u0v_17.ro o_u1v.ro (by rw [← HL0.out]; omega) (by rw [← HL1.out]; omega)).mono ?_
  rw [HY.out]
  rintro e W18 ⟨hv, rfl, o_hv, b18⟩
  have o_wv_18 := o_wv_17.below b18
  clear o_wv_17
  have o_gv_18 := o_gv_17.below b18
  clear o_gv_17
  have o_u0v_18 := o_u0v_17.below b18
  clear o_u0v_17
  have o_u1v_18 := o_u1v.below b18
  clear o_u1v
  have bt18 : Below w.heap.size w W18 := bt17.trans (b18.mono bt17.size)
  have z18 := b18.size
  have zt18 := bt18.size
  go_wp2_with fail
  refine (eqIntS_any _ _ _ _ o_hv.ro o_wv_18.ro).mono ?_
  rintro e W19 ⟨rfl, b19⟩
  have o_wv_19 := o_wv_18.below b19
  clear o_wv_18
  have o_gv_19 := o_gv_18.below b19
  clear o_gv_18
  have o_u0v_19 := o_u0v_18.below b19
  clear o_u0v_18
  have o_u1v_19 := o_u1v_18.below b19
  clear o_u1v_18
  have o_hv_19 := o_hv.below b19
  clear o_hv
  have bt19 : Below w.heap.size w W19 := bt18.trans (b19.mono bt18.size)
  have z19 := b19.size
  have zt19 := bt19.size
  go_wp2_with fail
  refine (heldIntS_any _ _ ys.length _ o_gv_19.ro (by omega) (by omega) (by omega)).mono ?_
  rintro e w' ⟨rfl, rfl⟩
  go_wp2_with fail
  go_ret
  exact ⟨rfl, bt19⟩

end Go.Proofs.Ytgpkobpjgmdegaa

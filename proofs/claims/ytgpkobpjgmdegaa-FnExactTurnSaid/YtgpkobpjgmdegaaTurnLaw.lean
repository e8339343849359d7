/-
  What is proved here: the walk of the exact law on Turn; no condition.
-/
import Derived.Test.YtgpkobpjgmdegaaTurn
import Derived.Test.YtgpkobpjgmdegaaSpecTurn
namespace Go.Proofs.Ytgpkobpjgmdegaa
open Go.RowKit
set_option linter.unusedVariables false

theorem ylen_FnExactTurn (x0 : List Int) (k : Int) (h0 : x0.length ≤ 1048576) : (turn x0 k).length ≤ 2097152 := by
  have := uni_len x0
  rw [turn_len]
  omega

set_option maxRecDepth 100000 in
set_option maxHeartbeats 4000000 in
theorem walk_FnExactTurn (v0 : Value) (x0 : List Int) (a1 : Int) (w : World) (h0 : Ro w v0 x0) (f0 : ∀ x ∈ x0, (Lit.int .i64 x).wf = true) (n0 : x0.length * 8 ≤ 140737488351232) (wf1 : (Lit.int .i64 a1).wf = true) :
    Calls Try.prog 5 #[v0, .int .i64 a1] w fun e w' => e = .returned (.bool true) ∧ Below w.heap.size w w' := by
  have r0 := Lib.hid h0
  obtain ⟨A0, c0, b0, off0, rfl, hnc0, hcm0, ha0, hcell0⟩ := h0
  obtain ⟨l0, hl0⟩ : ∃ n, n = x0.length := ⟨_, rfl⟩
  rw [← hl0] at r0 n0 ⊢
  have HL0 := Lib.hid hl0
  clear f0 ha0 hcell0 hnc0 hl0
  unfold maxLen at hcm0
  clear wf1
  by_cases big0 : 1048576 < (l0 : Int)
  · go_enter Try.func5, Try.ntmps5
    go_wp2_with fail
    go_ret
    exact ⟨rfl, Below.refl _ _⟩
  have s0 : l0 ≤ 1048576 := by omega
  have xl0 : x0.length ≤ 1048576 := by rw [← HL0.out]; exact s0
  generalize hys : turn x0 a1 = ys
  have hyl : ys.length ≤ 2097152 := by rw [← hys]; exact ylen_FnExactTurn x0 a1 (by rw [← HL0.out]; exact s0)
  have HY := Lib.hid hys
  clear hys
  go_enter Try.func5, Try.ntmps5
  go_wp2_with fail
  refine (toIntS_any _ x0 _ r0.out (by rw [← HL0.out]; omega)).mono ?_
  rintro e W1 ⟨s0v, rfl, o_s0v, b1⟩
  have bt1 : Below w.heap.size w W1 := b1
  have z1 := b1.size
  have zt1 := bt1.size
  go_wp2_with fail
  refine (specTurn_any _ x0 a1 _ o_s0v.ro (by rw [← HL0.out]; omega)).mono ?_
  rw [HY.out]
  rintro e W2 ⟨wv, rfl, o_wv, b2⟩
  have o_s0v_2 := o_s0v.below b2
  clear o_s0v
  have bt2 : Below w.heap.size w W2 := bt1.trans (b2.mono bt1.size)
  have z2 := b2.size
  have zt2 := bt2.size
  have lt_wv := Lib.hid (World.ownsRow.lt o_wv)
  go_wp2_with fail
  refine (toIntS_any _ x0 _ (Ro.below r0.out bt2) (by rw [← HL0.out]; omega)).mono ?_
  rintro e W3 ⟨x0v, rfl, o_x0v, b3⟩
  have o_s0v_3 := o_s0v_2.below b3
  clear o_s0v_2
  have o_wv_3 := o_wv.below b3
  clear o_wv
  have bt3 : Below w.heap.size w W3 := bt2.trans (b3.mono bt2.size)
  have z3 := b3.size
  have zt3 := bt3.size
  have lt_x0v := Lib.hid (World.ownsRow.lt o_x0v)
  go_wp2_with fail
  refine (turn_any _ x0 a1 _ o_x0v.ro (by rw [← HL0.out]; omega)).mono ?_
  rw [HY.out]
  rintro e W4 ⟨gv, rfl, o_gv, b4⟩
  have o_s0v_4 := o_s0v_3.below b4
  clear o_s0v_3
  have o_wv_4 := o_wv_3.below b4
  clear o_wv_3
  have o_x0v_4 := o_x0v.below b4
  clear o_x0v
  have bt4 : Below w.heap.size w W4 := bt3.trans (b4.mono bt3.size)
  have z4 := b4.size
  have zt4 := bt4.size
  have lt_gv := Lib.hid (World.ownsRow.lt o_gv)
  go_wp2_with fail
  refine (eqIntS_any _ _ _ _ o_gv.ro o_wv_4.ro).mono ?_
  rintro e W5 ⟨rfl, b5⟩
  have o_s0v_5 := o_s0v_4.below b5
  clear o_s0v_4
  have o_wv_5 := o_wv_4.below b5
  clear o_wv_4
  have o_x0v_5 := o_x0v_4.below b5
  clear o_x0v_4
  have o_gv_5 := o_gv.below b5
  clear o_gv
  have bt5 : Below w.heap.size w W5 := bt4.trans (b5.mono bt4.size)
  have z5 := b5.size
  have zt5 := bt5.size
  go_wp2_with fail
  refine (toIntS_any _ x0 _ (Ro.below r0.out bt5) (by rw [← HL0.out]; omega)).mono ?_
  rintro e W6 ⟨t0v, rfl, o_t0v, b6⟩
  have o_s0v_6 := o_s0v_5.below b6
  clear o_s0v_5
  have o_wv_6 := o_wv_5.below b6
  clear o_wv_5
  have o_x0v_6 := o_x0v_5.below b6
  clear o_x0v_5
  have o_gv_6 := o_gv_5.below b6
  clear o_gv_5
  have bt6 : Below w.heap.size w W6 := bt5.trans (b6.mono bt5.size)
  have z6 := b6.size
  have zt6 := bt6.size
  go_wp2_with fail
  refine (eqIntS_any _ _ _ _ o_x0v_6.ro o_t0v.ro).mono ?_
  rintro e W7 ⟨rfl, b7⟩
  have o_s0v_7 := o_s0v_6.below b7
  clear o_s0v_6
  have o_wv_7 := o_wv_6.below b7
  clear o_wv_6
  have o_x0v_7 := o_x0v_6.below b7
  clear o_x0v_6
  have o_gv_7 := o_gv_6.below b7
  clear o_gv_6
  have o_t0v_7 := o_t0v.below b7
  clear o_t0v
  have bt7 : Below w.heap.size w W7 := bt6.trans (b7.mono bt6.size)
  have z7 := b7.size
  have zt7 := bt7.size
  clear o_s0v_7
  clear o_t0v_7
  go_wp2_with fail
  refine (markIntS_any _ _ _ _ _ o_x0v_7 (by omega) (by omega) (by omega)).mono ?_
  rintro e W8 ⟨rfl, m_x0v, g8⟩
  have o_wv_8 := o_wv_7.apart g8 (fun k h1 h2 => by have h3 := lt_wv.out k h1; have h4 := lt_x0v.out k h2; omega)
  clear o_wv_7
  have o_gv_8 := o_gv_7.apart g8 (fun k h1 h2 => by have h3 := lt_gv.out k h1; have h4 := lt_x0v.out k h2; omega)
  clear o_gv_7
  have bt8 : Below w.heap.size w W8 := bt7.grown g8 bt7.size (fun k hk => by have h4 := lt_x0v.out k hk; omega)
  have z8 := g8.size
  have zt8 := bt8.size
  clear m_x0v
  go_wp2_with fail
  refine (eqIntS_any _ _ _ _ o_gv_8.ro o_wv_8.ro).mono ?_
  rintro e W9 ⟨rfl, b9⟩
  have o_wv_9 := o_wv_8.below b9
  clear o_wv_8
  have o_gv_9 := o_gv_8.below b9
  clear o_gv_8
  have bt9 : Below w.heap.size w W9 := bt8.trans (b9.mono bt8.size)
  have z9 := b9.size
  have zt9 := bt9.size
  go_wp2_with fail
  refine (markIntS_any _ _ _ _ _ o_gv_9 (by omega) (by omega) (by omega)).mono ?_
  rintro e W10 ⟨rfl, m_gv, g10⟩
  have o_wv_10 := o_wv_9.apart g10 (fun k h1 h2 => by have h3 := lt_wv.out k h1; have h4 := lt_gv.out k h2; omega)
  clear o_wv_9
  have bt10 : Below w.heap.size w W10 := bt9.grown g10 bt9.size (fun k hk => by have h4 := lt_gv.out k hk; omega)
  have z10 := g10.size
  have zt10 := bt10.size
  go_wp2_with fail
  refine (heldIntS_any _ _ ys.length _ m_gv.ro (by omega) (by omega) (by omega)).mono ?_
  rintro e w' ⟨rfl, rfl⟩
  go_wp2_with fail
  refine (toIntS_any _ x0 _ (Ro.below r0.out bt10) (by rw [← HL0.out]; omega)).mono ?_
  rintro e W11 ⟨u0v, rfl, o_u0v, b11⟩
  have o_wv_11 := o_wv_10.below b11
  clear o_wv_10
  have o_gv_11 := m_gv.below b11
  clear m_gv
  have bt11 : Below w.heap.size w W11 := bt10.trans (b11.mono bt10.size)
  have z11 := b11.size
  have zt11 := bt11.size
  go_wp2_with fail
  refine (turn_any _ x0 a1 _ o_u0v.ro (by rw [← HL0.out]; omega)).mono ?_
  rw [HY.out]
  rintro e W12 ⟨hv, rfl, o_hv, b12⟩
  have o_wv_12 := o_wv_11.below b12
  clear o_wv_11
  have o_gv_12 := o_gv_11.below b12
  clear o_gv_11
  have o_u0v_12 := o_u0v.below b12
  clear o_u0v
  have bt12 : Below w.heap.size w W12 := bt11.trans (b12.mono bt11.size)
  have z12 := b12.size
  have zt12 := bt12.size
  go_wp2_with fail
  refine (eqIntS_any _ _ _ _ o_hv.ro o_wv_12.ro).mono ?_
  rintro e W13 ⟨rfl, b13⟩
  have o_wv_13 := o_wv_12.below b13
  clear o_wv_12
  have o_gv_13 := o_gv_12.below b13
  clear o_gv_12
  have o_u0v_13 := o_u0v_12.below b13
  clear o_u0v_12
  have o_hv_13 := o_hv.below b13
  clear o_hv
  have bt13 : Below w.heap.size w W13 := bt12.trans (b13.mono bt12.size)
  have z13 := b13.size
  have zt13 := bt13.size
  go_wp2_with fail
  refine (heldIntS_any _ _ ys.length _ o_gv_13.ro (by omega) (by omega) (by omega)).mono ?_
  rintro e w' ⟨rfl, rfl⟩
  go_wp2_with fail
  go_ret
  exact ⟨rfl, bt13⟩

end Go.Proofs.Ytgpkobpjgmdegaa

/-
  What is proved here: the walk of the law FnExactMerge; no other condition. Written by wip/gen/exactk.py.
-/
import Derived.Test.YtpkdjdofbedncaaSpans
import Derived.Test.YtpkdjdofbedncaaSpecMerge
import Derived.Test.YtpkdjdofbedncaaExSpan
namespace Go.Proofs.Ytpkdjdofbedncaa
open Go.RowKit
set_option linter.unusedVariables false

theorem own_apartK {α : Type} {K : Nat} {enc : α → List Int} {E : TypeId} {B g : Nat} {w w' : World} {u : Value} {xs : List α} (h : OwnK K enc E B w u xs) (hg : w.grownBy w' (some g)) (hne : ∀ k, u.ownBlock = some k → k ≠ g) : OwnK K enc E B w' u xs :=
  World.ownsRow.kept h hg (by
    cases hu : u.ownBlock with
    | none => exact .inl rfl
    | some k => exact .inr (fun e => by injection e with e; exact hne k hu e))
theorem own_apartI {E : TypeId} {B g : Nat} {w w' : World} {u : Value} {xs : List Int} (h : Own E B w u xs) (hg : w.grownBy w' (some g)) (hne : ∀ k, u.ownBlock = some k → k ≠ g) : Own E B w' u xs :=
  World.ownsRow.kept h hg (by
    cases hu : u.ownBlock with
    | none => exact .inl rfl
    | some k => exact .inr (fun e => by injection e with e; exact hne k hu e))
theorem own_apartV {α : Type} {K : Nat} {enc : α → List Int} {E : TypeId} {B : Nat} {w w' : World} {u v : Value} {xs : List α} (h : OwnK K enc E B w u xs) (hg : w.grownBy w' v.ownBlock) (hne : ∀ k, u.ownBlock = some k → v.ownBlock = some k → False) : OwnK K enc E B w' u xs :=
  World.ownsRow.kept h hg (by
    cases hu : u.ownBlock with
    | none => exact .inl rfl
    | some k => exact .inr (fun e => hne k hu e.symm))
theorem own_apartC {K : Nat} {E : TypeId} {B g n cap : Nat} {w w' : World} {v : Value} {cs : List Int} (h : OwnC K E B w g n cap cs) (hg : w.grownBy w' v.ownBlock) (hne : v.ownBlock = some g → False) : OwnC K E B w' g n cap cs :=
  World.ownsRow.kept h hg (.inr (fun e => hne e.symm))
theorem ylen_FnExactMerge (x0 : List (Int × Int)) (h : x0.length ≤ 1048576) : (merged x0).length ≤ 2097152 := by have := merged_len x0; omega

set_option maxRecDepth 100000 in
set_option maxHeartbeats 8000000 in
theorem walk_FnExactMerge (v0 : Value) (x0 : List (Int × Int)) (w : World) (h0 : Ros2 w v0 x0) (f0 : ∀ x ∈ x0, (Lit.int .i64 x.1).wf = true ∧ (Lit.int .i64 x.2).wf = true) (n0 : x0.length * 16 ≤ 140737488351232) :
    Calls Try.prog 4 #[v0] w fun e w' => e = .returned (.bool true) ∧ Below w.heap.size w w' := by
  have R0 := Lib.hid h0
  obtain ⟨l0, hl0⟩ : ∃ n, n = x0.length := ⟨_, rfl⟩
  rw [← hl0] at n0
  have HL0 := Lib.hid hl0
  clear hl0 h0 f0
  by_cases big0 : 1048576 < l0
  · go_enter Try.func4, Try.ntmps4
    go_wp2_with fail
    refine (szSpanS_any _ x0 _ R0.out (by rw [← HL0.out]; omega)).mono ?_
    rw [← HL0.out, if_neg (by omega)]
    rintro e w' ⟨rfl, rfl⟩
    go_wp2_with fail
    go_ret
    exact ⟨rfl, Below.refl _ _⟩
  have s0 : l0 ≤ 1048576 := by omega
  generalize hys : merged x0 = ys
  have hyl : ys.length ≤ 2097152 := by rw [← hys]; exact ylen_FnExactMerge x0 (by rw [← HL0.out]; exact s0)
  have HY := Lib.hid hys
  clear hys
  obtain ⟨d0, hd0⟩ : ∃ d0 : Int, d0 = 1048576 - (l0 : Int) := ⟨_, rfl⟩
  have hd0n : ¬ d0 < 0 := by omega
  have hd0p : 0 ≤ d0 := by omega
  go_enter Try.func4, Try.ntmps4
  go_wp2_with fail
  refine (szSpanS_any _ x0 _ R0.out (by rw [← HL0.out]; omega)).mono ?_
  rw [← HL0.out, if_pos s0, ← hd0]
  clear hd0
  rintro e w' ⟨rfl, rfl⟩
  go_wp2_with fail
  refine (toSpanS_any _ x0 _ R0.out (by rw [← HL0.out]; omega)).mono ?_
  rintro e W1 ⟨s0v, rfl, o_s0v, b1⟩
  have bt1 : Below w.heap.size w W1 := b1
  have z1 := b1.size
  have zt1 := bt1.size
  go_wp2_with fail
  refine (specMerge_any _ x0 _ o_s0v.ros2 (by rw [← HL0.out]; omega)).mono ?_
  rw [HY.out]
  rintro e W2 ⟨wv, rfl, o_wv, b2⟩
  have o_s0v_2 := o_s0v.below b2
  clear o_s0v
  have bt2 : Below w.heap.size w W2 := bt1.trans (b2.mono bt1.size)
  have z2 := b2.size
  have zt2 := bt2.size
  have LT_wv := Lib.hid (World.ownsRow.lt o_wv)
  clear o_s0v_2
  go_wp2_with fail
  refine (toSpanS_some _ x0 _ (Ros2.below R0.out bt2) (by rw [← HL0.out]; omega)).mono ?_
  rintro e W3 ⟨g_xv, k_xv, c_xv, rfl, o_xv, b3⟩
  have o_wv_3 := o_wv.below b3
  clear o_wv
  have bt3 : Below w.heap.size w W3 := bt2.trans (b3.mono bt2.size)
  have z3 := b3.size
  have zt3 := bt3.size
  have lt_xv := o_xv.lt
  have LT_xv := Lib.hid lt_xv
  clear lt_xv
  go_wp2_with fail
  refine (merge_some _ x0 _ o_xv.ros2 (by rw [← HL0.out]; omega)).mono ?_
  rw [HY.out]
  rintro e W4 ⟨g_gv, k_gv, c_gv, rfl, o_gv, b4⟩
  have o_wv_4 := o_wv_3.below b4
  clear o_wv_3
  have o_xv_4 := o_xv.below b4
  clear o_xv
  have bt4 : Below w.heap.size w W4 := bt3.trans (b4.mono bt3.size)
  have z4 := b4.size
  have zt4 := bt4.size
  have lt_gv := o_gv.lt
  have LT_gv := Lib.hid lt_gv
  clear lt_gv
  go_wp2_with fail
  refine (eqSpanS_any _ _ ys _ o_gv.ros2 o_wv_4.ros2).mono ?_
  rintro e W5 ⟨rfl, b5⟩
  have o_wv_5 := o_wv_4.below b5
  clear o_wv_4
  have o_xv_5 := o_xv_4.below b5
  clear o_xv_4
  have o_gv_5 := o_gv.below b5
  clear o_gv
  have bt5 : Below w.heap.size w W5 := bt4.trans (b5.mono bt4.size)
  have z5 := b5.size
  have zt5 := bt5.size
  go_wp2_with fail
  refine (toSpanS_any _ x0 _ (Ros2.below R0.out bt5) (by rw [← HL0.out]; omega)).mono ?_
  rintro e W6 ⟨tv, rfl, o_tv, b6⟩
  have o_wv_6 := o_wv_5.below b6
  clear o_wv_5
  have o_xv_6 := o_xv_5.below b6
  clear o_xv_5
  have o_gv_6 := o_gv_5.below b6
  clear o_gv_5
  have bt6 : Below w.heap.size w W6 := bt5.trans (b6.mono bt5.size)
  have z6 := b6.size
  have zt6 := bt6.size
  go_wp2_with fail
  refine (eqSpanS_any _ _ x0 _ o_xv_6.ros2 o_tv.ros2).mono ?_
  rintro e W7 ⟨rfl, b7⟩
  have o_wv_7 := o_wv_6.below b7
  clear o_wv_6
  have o_xv_7 := o_xv_6.below b7
  clear o_xv_6
  have o_gv_7 := o_gv_6.below b7
  clear o_gv_6
  have o_tv_7 := o_tv.below b7
  clear o_tv
  have bt7 : Below w.heap.size w W7 := bt6.trans (b7.mono bt6.size)
  have z7 := b7.size
  have zt7 := bt7.size
  clear o_tv_7
  go_wp2_with fail
  refine (markSpanS_any 1 _ _ _ _ _ _ o_xv_7.flat (by omega) (by omega) (by have := LT_xv.out; have := HL0.out; omega)).mono ?_
  rintro e W8 ⟨rfl, m_xv, gr8⟩
  have o_wv_8 := own_apartK o_wv_7 gr8 (fun k hk => by have h3 := LT_wv.out k hk; have h4 := LT_xv.out; omega)
  clear o_wv_7
  have o_gv_8 := own_apartK o_gv_7 gr8 (fun k hk => by simp [Value.ownBlock] at hk; have h3 := LT_gv.out; have h4 := LT_xv.out; omega)
  clear o_gv_7
  have bt8 : Below w.heap.size w W8 := bt7.grown gr8 bt7.size (fun k hk => by injection hk with hk; have h4 := LT_xv.out; omega)
  have z8 := gr8.size
  have zt8 := bt8.size
  clear o_xv_7
  clear m_xv
  go_wp2_with fail
  refine (eqSpanS_any _ _ ys _ o_gv_8.ros2 o_wv_8.ros2).mono ?_
  rintro e W9 ⟨rfl, b9⟩
  have o_wv_9 := o_wv_8.below b9
  clear o_wv_8
  have o_gv_9 := o_gv_8.below b9
  clear o_gv_8
  have bt9 : Below w.heap.size w W9 := bt8.trans (b9.mono bt8.size)
  have z9 := b9.size
  have zt9 := bt9.size
  go_wp2_with fail
  refine (markSpanS_any 1 _ _ _ _ _ _ o_gv_9.flat (by omega) (by omega) (by have := LT_gv.out; have := HL0.out; omega)).mono ?_
  rintro e W10 ⟨rfl, m_gv, gr10⟩
  have o_wv_10 := own_apartK o_wv_9 gr10 (fun k hk => by have h3 := LT_wv.out k hk; have h4 := LT_gv.out; omega)
  clear o_wv_9
  have bt10 : Below w.heap.size w W10 := bt9.grown gr10 bt9.size (fun k hk => by injection hk with hk; have h4 := LT_gv.out; omega)
  have z10 := gr10.size
  have zt10 := bt10.size
  clear o_gv_9
  go_wp2_with fail
  refine (heldSpanS_any 1 _ _ _ _ _ m_gv (by omega) (by omega) (by have := LT_gv.out; have := HL0.out; omega)).mono ?_
  rintro e w' ⟨rfl, rfl⟩
  go_wp2_with fail
  refine (toSpanS_any _ x0 _ (Ros2.below R0.out bt10) (by rw [← HL0.out]; omega)).mono ?_
  rintro e W11 ⟨uv, rfl, o_uv, b11⟩
  have o_wv_11 := o_wv_10.below b11
  clear o_wv_10
  have o_gv_11 := m_gv.below b11
  clear m_gv
  have bt11 : Below w.heap.size w W11 := bt10.trans (b11.mono bt10.size)
  have z11 := b11.size
  have zt11 := bt11.size
  go_wp2_with fail
  refine (merge_some _ x0 _ o_uv.ros2 (by rw [← HL0.out]; omega)).mono ?_
  rw [HY.out]
  rintro e W12 ⟨g_hv, k_hv, c_hv, rfl, o_hv, b12⟩
  have o_wv_12 := o_wv_11.below b12
  clear o_wv_11
  have o_gv_12 := o_gv_11.below b12
  clear o_gv_11
  have o_uv_12 := o_uv.below b12
  clear o_uv
  have bt12 : Below w.heap.size w W12 := bt11.trans (b12.mono bt11.size)
  have z12 := b12.size
  have zt12 := bt12.size
  go_wp2_with fail
  refine (eqSpanS_any _ _ ys _ o_hv.ros2 o_wv_12.ros2).mono ?_
  rintro e W13 ⟨rfl, b13⟩
  have o_wv_13 := o_wv_12.below b13
  clear o_wv_12
  have o_gv_13 := o_gv_12.below b13
  clear o_gv_12
  have o_uv_13 := o_uv_12.below b13
  clear o_uv_12
  have o_hv_13 := o_hv.below b13
  clear o_hv
  have bt13 : Below w.heap.size w W13 := bt12.trans (b13.mono bt12.size)
  have z13 := b13.size
  have zt13 := bt13.size
  go_wp2_with fail
  refine (heldSpanS_any 1 _ _ _ _ _ o_gv_13 (by omega) (by omega) (by have := LT_gv.out; have := HL0.out; omega)).mono ?_
  rintro e w' ⟨rfl, rfl⟩
  go_wp2_with fail
  go_ret
  exact ⟨rfl, bt13⟩

end Go.Proofs.Ytpkdjdofbedncaa

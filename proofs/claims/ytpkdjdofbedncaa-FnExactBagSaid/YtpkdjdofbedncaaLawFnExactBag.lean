/-
  What is proved here: the walk of the law FnExactBag; no other condition. Written by wip/gen/exactbag.py.
-/
import Derived.Test.YtpkdjdofbedncaaSpecBag
import Derived.Test.YtpkdjdofbedncaaBag
import Derived.Test.YtpkdjdofbedncaaExact
import Derived.Test.YtpkdjdofbedncaaExOrder
namespace Go.Proofs.Ytpkdjdofbedncaa
open Go.RowKit
set_option linter.unusedVariables false

theorem own_apartK {α : Type} {K : Nat} {enc : α → List Int} {E : TypeId} {B g : Nat} {w w' : World} {u : Value} {xs : List α} (h : OwnK K enc E B w u xs) (hg : w.grownBy w' (some g)) (hne : ∀ k, u.ownBlock = some k → k ≠ g) : OwnK K enc E B w' u xs :=
  World.ownsRow.kept h hg (by
    cases hu : u.ownBlock with
    | none => exact .inl rfl
    | some k => exact .inr (fun e => by injection e with e; exact hne k hu e))
theorem own_apartI {E : TypeId} {B g : Nat} {w w' : World} {u : Value} {xs : List Int} (h : Own E B w u xs) (hg : w.grownBy w' (some g)) (hne : ∀ k, u.ownBlock = some k → k ≠ g) : Own E B w' u xs :=
  World.ownsRow.kept h hg (by
    cases hu : u.ownBlock with
    | none => exact .inl rfl
    | some k => exact .inr (fun e => by injection e with e; exact hne k hu e))
theorem own_apartV {α : Type} {K : Nat} {enc : α → List Int} {E : TypeId} {B : Nat} {w w' : World} {u v : Value} {xs : List α} (h : OwnK K enc E B w u xs) (hg : w.grownBy w' v.ownBlock) (hne : ∀ k, u.ownBlock = some k → v.ownBlock = some k → False) : OwnK K enc E B w' u xs :=
  World.ownsRow.kept h hg (by
    cases hu : u.ownBlock with
    | none => exact .inl rfl
    | some k => exact .inr (fun e => hne k hu e.symm))
theorem own_apartC {K : Nat} {E : TypeId} {B g n cap : Nat} {w w' : World} {v : Value} {cs : List Int} (h : OwnC K E B w g n cap cs) (hg : w.grownBy w' v.ownBlock) (hne : v.ownBlock = some g → False) : OwnC K E B w' g n cap cs :=
  World.ownsRow.kept h hg (.inr (fun e => hne e.symm))

set_option maxRecDepth 100000 in
set_option maxHeartbeats 8000000 in
theorem walk_FnExactBag (v0 : Value) (x0 : List Int) (v1 : Value) (x1 : List (Int × Int)) (w : World) (h0 : Ro w v0 x0) (f0 : ∀ x ∈ x0, (Lit.int .i64 x).wf = true) (n0 : x0.length * 8 ≤ 140737488351232) (h1 : Ros2 w v1 x1) (f1 : ∀ x ∈ x1, (Lit.int .i64 x.1).wf = true ∧ (Lit.int .i64 x.2).wf = true) (n1 : x1.length * 16 ≤ 140737488351232) :
    Calls Try.prog 11 #[v0, v1] w fun e w' => e = .returned (.bool true) ∧ Below w.heap.size w w' := by
  have R0 := Lib.hid h0
  have R1 := Lib.hid h1
  obtain ⟨A0, c0, b0, off0, rfl, hnc0, hcm0, -, -⟩ := Ro.shape h0
  obtain ⟨l0, hl0⟩ : ∃ n, n = x0.length := ⟨_, rfl⟩
  rw [← hl0] at R0 n0 hnc0 ⊢
  have HL0 := Lib.hid hl0
  clear hl0 h0 f0
  unfold maxLen at hcm0
  by_cases big0 : 1048576 < (l0 : Int)
  · go_enter Try.func11, Try.ntmps11
    go_wp2_with fail
    go_ret
    exact ⟨rfl, Below.refl _ _⟩
  have s0 : l0 ≤ 1048576 := by omega
  obtain ⟨l1, hl1⟩ : ∃ n, n = x1.length := ⟨_, rfl⟩
  rw [← hl1] at n1
  have HL1 := Lib.hid hl1
  clear hl1 h1 f1
  by_cases big1 : 1048576 < l1
  · go_enter Try.func11, Try.ntmps11
    go_wp2_with fail
    refine (szOrderS_any _ x1 _ R1.out (by rw [← HL1.out]; omega)).mono ?_
    rw [← HL1.out, if_neg (by omega)]
    rintro e w' ⟨rfl, rfl⟩
    go_wp2_with fail
    go_ret
    exact ⟨rfl, Below.refl _ _⟩
  have s1 : l1 ≤ 1048576 := by omega
  obtain ⟨y0, y1, hys⟩ : ∃ y0 y1, bagRun ([], asc x0) x1 = (y0, y1) := ⟨_, _, rfl⟩
  have hyl : y0.length ≤ 2097152 ∧ y1.length ≤ 2097152 := by
    have h := bagRun_len ([], asc x0) x1
    rw [hys] at h
    simp only [List.length_nil, asc_len] at h
    have := HL0.out
    have := HL1.out
    omega
  obtain ⟨hyl0, hyl1⟩ := hyl
  have HY := Lib.hid hys
  clear hys
  obtain ⟨d0, hd0⟩ : ∃ d0 : Int, d0 = 1048576 - (l1 : Int) := ⟨_, rfl⟩
  have hd0n : ¬ d0 < 0 := by omega
  have hd0p : 0 ≤ d0 := by omega
  go_enter Try.func11, Try.ntmps11
  go_wp2_with fail
  refine (szOrderS_any _ x1 _ R1.out (by rw [← HL1.out]; omega)).mono ?_
  rw [← HL1.out, if_pos s1, ← hd0]
  clear hd0
  rintro e w' ⟨rfl, rfl⟩
  go_wp2_with fail
  refine (toIntS_any _ x0 _ R0.out (by rw [← HL0.out]; omega)).mono ?_
  rintro e W1 ⟨s0v, rfl, o_s0v, b1⟩
  have bt1 : Below w.heap.size w W1 := b1
  have z1 := b1.size
  have zt1 := bt1.size
  go_wp2_with fail
  refine (toOrderS_any _ x1 _ (Ros2.below R1.out bt1) (by rw [← HL1.out]; omega)).mono ?_
  rintro e W2 ⟨s1v, rfl, o_s1v, b2⟩
  have o_s0v_2 := o_s0v.below b2
  clear o_s0v
  have bt2 : Below w.heap.size w W2 := bt1.trans (b2.mono bt1.size)
  have z2 := b2.size
  have zt2 := bt2.size
  go_wp2_with fail
  refine (specBag_any _ _ x0 x1 _ o_s0v_2.ro o_s1v.ros2 (by rw [← HL0.out, ← HL1.out]; omega)).mono ?_
  rw [HY.out]
  rintro e W3 ⟨w0v, w1v, rfl, o_w0v, o_w1v, -, b3⟩
  have o_s0v_3 := o_s0v_2.below b3
  clear o_s0v_2
  have o_s1v_3 := o_s1v.below b3
  clear o_s1v
  have bt3 : Below w.heap.size w W3 := bt2.trans (b3.mono bt2.size)
  have z3 := b3.size
  have zt3 := bt3.size
  have LT_w0v := Lib.hid (World.ownsRow.lt o_w0v)
  have LT_w1v := Lib.hid (World.ownsRow.lt o_w1v)
  clear o_s0v_3
  clear o_s1v_3
  go_wp2_with fail
  refine (toIntS_any _ x0 _ (Ro.below R0.out bt3) (by rw [← HL0.out]; omega)).mono ?_
  rintro e W4 ⟨xv, rfl, o_xv, b4⟩
  have o_w0v_4 := o_w0v.below b4
  clear o_w0v
  have o_w1v_4 := o_w1v.below b4
  clear o_w1v
  have bt4 : Below w.heap.size w W4 := bt3.trans (b4.mono bt3.size)
  have z4 := b4.size
  have zt4 := bt4.size
  have LT_xv := Lib.hid (World.ownsRow.lt o_xv)
  go_wp2_with fail
  refine (toOrderS_some _ x1 _ (Ros2.below R1.out bt4) (by rw [← HL1.out]; omega)).mono ?_
  rintro e W5 ⟨g_kv, k_kv, c_kv, rfl, o_kv, b5⟩
  have o_w0v_5 := o_w0v_4.below b5
  clear o_w0v_4
  have o_w1v_5 := o_w1v_4.below b5
  clear o_w1v_4
  have o_xv_5 := o_xv.below b5
  clear o_xv
  have bt5 : Below w.heap.size w W5 := bt4.trans (b5.mono bt4.size)
  have z5 := b5.size
  have zt5 := bt5.size
  have lt_kv := o_kv.lt
  have LT_kv := Lib.hid lt_kv
  clear lt_kv
  go_wp2_with fail
  refine (bag_any _ _ x0 x1 _ o_xv_5.ro o_kv.ros2 (by rw [← HL0.out, ← HL1.out]; omega)).mono ?_
  rw [HY.out]
  rintro e W6 ⟨g0v, g1v, rfl, o_g0v, o_g1v, hap, b6⟩
  have o_w0v_6 := o_w0v_5.below b6
  clear o_w0v_5
  have o_w1v_6 := o_w1v_5.below b6
  clear o_w1v_5
  have o_xv_6 := o_xv_5.below b6
  clear o_xv_5
  have o_kv_6 := o_kv.below b6
  clear o_kv
  have bt6 : Below w.heap.size w W6 := bt5.trans (b6.mono bt5.size)
  have z6 := b6.size
  have zt6 := bt6.size
  have LT_g0v := Lib.hid (World.ownsRow.lt o_g0v)
  have LT_g1v := Lib.hid (World.ownsRow.lt o_g1v)
  have HAP := Lib.hid hap
  clear hap
  go_wp2_with fail
  refine (eqIntS_any _ _ y0 _ o_g0v.ro o_w0v_6.ro).mono ?_
  rintro e W7 ⟨rfl, b7⟩
  have o_w0v_7 := o_w0v_6.below b7
  clear o_w0v_6
  have o_w1v_7 := o_w1v_6.below b7
  clear o_w1v_6
  have o_xv_7 := o_xv_6.below b7
  clear o_xv_6
  have o_kv_7 := o_kv_6.below b7
  clear o_kv_6
  have o_g0v_7 := o_g0v.below b7
  clear o_g0v
  have o_g1v_7 := o_g1v.below b7
  clear o_g1v
  have bt7 : Below w.heap.size w W7 := bt6.trans (b7.mono bt6.size)
  have z7 := b7.size
  have zt7 := bt7.size
  go_wp2_with fail
  refine (eqIntS_any _ _ y1 _ o_g1v_7.ro o_w1v_7.ro).mono ?_
  rintro e W8 ⟨rfl, b8⟩
  have o_w0v_8 := o_w0v_7.below b8
  clear o_w0v_7
  have o_w1v_8 := o_w1v_7.below b8
  clear o_w1v_7
  have o_xv_8 := o_xv_7.below b8
  clear o_xv_7
  have o_kv_8 := o_kv_7.below b8
  clear o_kv_7
  have o_g0v_8 := o_g0v_7.below b8
  clear o_g0v_7
  have o_g1v_8 := o_g1v_7.below b8
  clear o_g1v_7
  have bt8 : Below w.heap.size w W8 := bt7.trans (b8.mono bt7.size)
  have z8 := b8.size
  have zt8 := bt8.size
  go_wp2_with fail
  refine (toIntS_any _ x0 _ (Ro.below R0.out bt8) (by rw [← HL0.out]; omega)).mono ?_
  rintro e W9 ⟨tv, rfl, o_tv, b9⟩
  have o_w0v_9 := o_w0v_8.below b9
  clear o_w0v_8
  have o_w1v_9 := o_w1v_8.below b9
  clear o_w1v_8
  have o_xv_9 := o_xv_8.below b9
  clear o_xv_8
  have o_kv_9 := o_kv_8.below b9
  clear o_kv_8
  have o_g0v_9 := o_g0v_8.below b9
  clear o_g0v_8
  have o_g1v_9 := o_g1v_8.below b9
  clear o_g1v_8
  have bt9 : Below w.heap.size w W9 := bt8.trans (b9.mono bt8.size)
  have z9 := b9.size
  have zt9 := bt9.size
  go_wp2_with fail
  refine (eqIntS_any _ _ x0 _ o_xv_9.ro o_tv.ro).mono ?_
  rintro e W10 ⟨rfl, b10⟩
  have o_w0v_10 := o_w0v_9.below b10
  clear o_w0v_9
  have o_w1v_10 := o_w1v_9.below b10
  clear o_w1v_9
  have o_xv_10 := o_xv_9.below b10
  clear o_xv_9
  have o_kv_10 := o_kv_9.below b10
  clear o_kv_9
  have o_g0v_10 := o_g0v_9.below b10
  clear o_g0v_9
  have o_g1v_10 := o_g1v_9.below b10
  clear o_g1v_9
  have o_tv_10 := o_tv.below b10
  clear o_tv
  have bt10 : Below w.heap.size w W10 := bt9.trans (b10.mono bt9.size)
  have z10 := b10.size
  have zt10 := bt10.size
  clear o_tv_10
  go_wp2_with fail
  refine (toOrderS_any _ x1 _ (Ros2.below R1.out bt10) (by rw [← HL1.out]; omega)).mono ?_
  rintro e W11 ⟨uv, rfl, o_uv, b11⟩
  have o_w0v_11 := o_w0v_10.below b11
  clear o_w0v_10
  have o_w1v_11 := o_w1v_10.below b11
  clear o_w1v_10
  have o_xv_11 := o_xv_10.below b11
  clear o_xv_10
  have o_kv_11 := o_kv_10.below b11
  clear o_kv_10
  have o_g0v_11 := o_g0v_10.below b11
  clear o_g0v_10
  have o_g1v_11 := o_g1v_10.below b11
  clear o_g1v_10
  have bt11 : Below w.heap.size w W11 := bt10.trans (b11.mono bt10.size)
  have z11 := b11.size
  have zt11 := bt11.size
  go_wp2_with fail
  refine (eqOrderS_any _ _ x1 _ o_kv_11.ros2 o_uv.ros2).mono ?_
  rintro e W12 ⟨rfl, b12⟩
  have o_w0v_12 := o_w0v_11.below b12
  clear o_w0v_11
  have o_w1v_12 := o_w1v_11.below b12
  clear o_w1v_11
  have o_xv_12 := o_xv_11.below b12
  clear o_xv_11
  have o_kv_12 := o_kv_11.below b12
  clear o_kv_11
  have o_g0v_12 := o_g0v_11.below b12
  clear o_g0v_11
  have o_g1v_12 := o_g1v_11.below b12
  clear o_g1v_11
  have o_uv_12 := o_uv.below b12
  clear o_uv
  have bt12 : Below w.heap.size w W12 := bt11.trans (b12.mono bt11.size)
  have z12 := b12.size
  have zt12 := bt12.size
  clear o_uv_12
  go_wp2_with fail
  refine (markIntS_any _ 1 _ _ _ o_xv_12 (by omega) (by omega) (by rw [← HL0.out]; omega)).mono ?_
  rintro e W13 ⟨rfl, m_xv, gr13⟩
  have o_w0v_13 := o_w0v_12.apart gr13 (fun k h1 h2 => by have h3 := LT_w0v.out k h1; have h4 := LT_xv.out k h2; omega)
  clear o_w0v_12
  have o_w1v_13 := o_w1v_12.apart gr13 (fun k h1 h2 => by have h3 := LT_w1v.out k h1; have h4 := LT_xv.out k h2; omega)
  clear o_w1v_12
  have o_kv_13 := own_apartV o_kv_12 gr13 (fun k hk h2 => by simp [Value.ownBlock] at hk; have h3 := LT_kv.out; have h4 := LT_xv.out k h2; omega)
  clear o_kv_12
  have o_g0v_13 := o_g0v_12.apart gr13 (fun k h1 h2 => by have h3 := LT_g0v.out k h1; have h4 := LT_xv.out k h2; omega)
  clear o_g0v_12
  have o_g1v_13 := o_g1v_12.apart gr13 (fun k h1 h2 => by have h3 := LT_g1v.out k h1; have h4 := LT_xv.out k h2; omega)
  clear o_g1v_12
  have bt13 : Below w.heap.size w W13 := bt12.grown gr13 bt12.size (fun k hk => by have h4 := LT_xv.out k hk; omega)
  have z13 := gr13.size
  have zt13 := bt13.size
  clear o_xv_12
  clear m_xv
  rw [← HL0.out]
  go_wp2_with fail
  refine (markOrderS_any _ _ _ _ _ _ _ o_kv_13.flat (by omega) (by omega) (by have := LT_kv.out; have := HL1.out; omega)).mono ?_
  rintro e W14 ⟨rfl, m_kv, gr14⟩
  have o_w0v_14 := own_apartI o_w0v_13 gr14 (fun k hk => by have h3 := LT_w0v.out k hk; have h4 := LT_kv.out; omega)
  clear o_w0v_13
  have o_w1v_14 := own_apartI o_w1v_13 gr14 (fun k hk => by have h3 := LT_w1v.out k hk; have h4 := LT_kv.out; omega)
  clear o_w1v_13
  have o_g0v_14 := own_apartI o_g0v_13 gr14 (fun k hk => by have h3 := LT_g0v.out k hk; have h4 := LT_kv.out; omega)
  clear o_g0v_13
  have o_g1v_14 := own_apartI o_g1v_13 gr14 (fun k hk => by have h3 := LT_g1v.out k hk; have h4 := LT_kv.out; omega)
  clear o_g1v_13
  have bt14 : Below w.heap.size w W14 := bt13.grown gr14 bt13.size (fun k hk => by injection hk with hk; have h4 := LT_kv.out; omega)
  have z14 := gr14.size
  have zt14 := bt14.size
  clear o_kv_13 m_kv
  go_wp2_with fail
  refine (eqIntS_any _ _ y0 _ o_g0v_14.ro o_w0v_14.ro).mono ?_
  rintro e W15 ⟨rfl, b15⟩
  have o_w0v_15 := o_w0v_14.below b15
  clear o_w0v_14
  have o_w1v_15 := o_w1v_14.below b15
  clear o_w1v_14
  have o_g0v_15 := o_g0v_14.below b15
  clear o_g0v_14
  have o_g1v_15 := o_g1v_14.below b15
  clear o_g1v_14
  have bt15 : Below w.heap.size w W15 := bt14.trans (b15.mono bt14.size)
  have z15 := b15.size
  have zt15 := bt15.size
  go_wp2_with fail
  refine (eqIntS_any _ _ y1 _ o_g1v_15.ro o_w1v_15.ro).mono ?_
  rintro e W16 ⟨rfl, b16⟩
  have o_w0v_16 := o_w0v_15.below b16
  clear o_w0v_15
  have o_w1v_16 := o_w1v_15.below b16
  clear o_w1v_15
  have o_g0v_16 := o_g0v_15.below b16
  clear o_g0v_15
  have o_g1v_16 := o_g1v_15.below b16
  clear o_g1v_15
  have bt16 : Below w.heap.size w W16 := bt15.trans (b16.mono bt15.size)
  have z16 := b16.size
  have zt16 := bt16.size
  obtain ⟨e0, he0⟩ : ∃ e0, e0 = y0.length := ⟨_, rfl⟩
  obtain ⟨e1, he1⟩ : ∃ e1, e1 = y1.length := ⟨_, rfl⟩
  rw [← he0] at hyl0
  rw [← he1] at hyl1
  have HE0 := Lib.hid he0
  have HE1 := Lib.hid he1
  clear he0 he1
  go_wp2_with fail
  refine (markIntS_any _ 1 _ _ _ o_g0v_16 (by omega) (by omega) (by rw [← HE0.out]; omega)).mono ?_
  rintro e W17 ⟨rfl, m_g0v, gr17⟩
  have o_w0v_17 := o_w0v_16.apart gr17 (fun k h1 h2 => by have h3 := LT_w0v.out k h1; have h4 := LT_g0v.out k h2; omega)
  clear o_w0v_16
  have o_w1v_17 := o_w1v_16.apart gr17 (fun k h1 h2 => by have h3 := LT_w1v.out k h1; have h4 := LT_g0v.out k h2; omega)
  clear o_w1v_16
  have o_g1v_17 := o_g1v_16.apart gr17 (fun k h1 h2 => HAP.out k h2 h1)
  clear o_g1v_16
  have bt17 : Below w.heap.size w W17 := bt16.grown gr17 bt16.size (fun k hk => by have h4 := LT_g0v.out k hk; omega)
  have z17 := gr17.size
  have zt17 := bt17.size
  clear o_g0v_16
  rw [← HE0.out] at m_g0v ⊢
  go_wp2_with fail
  refine (markIntS_any _ _ _ _ _ o_g1v_17 (by omega) (by omega) (by rw [← HE1.out]; omega)).mono ?_
  rintro e W18 ⟨rfl, m_g1v, gr18⟩
  have o_w0v_18 := o_w0v_17.apart gr18 (fun k h1 h2 => by have h3 := LT_w0v.out k h1; have h4 := LT_g1v.out k h2; omega)
  clear o_w0v_17
  have o_w1v_18 := o_w1v_17.apart gr18 (fun k h1 h2 => by have h3 := LT_w1v.out k h1; have h4 := LT_g1v.out k h2; omega)
  clear o_w1v_17
  have o_g0v_18 := m_g0v.apart gr18 (fun k h1 h2 => HAP.out k h1 h2)
  clear m_g0v
  have bt18 : Below w.heap.size w W18 := bt17.grown gr18 bt17.size (fun k hk => by have h4 := LT_g1v.out k hk; omega)
  have z18 := gr18.size
  have zt18 := bt18.size
  clear o_g1v_17
  rw [← HE1.out] at m_g1v ⊢
  go_wp2_with fail
  refine (heldIntS_any _ 1 e0 _ o_g0v_18.ro (by omega) (by omega) (by omega)).mono ?_
  rintro e w' ⟨rfl, rfl⟩
  go_wp2_with fail
  refine (heldIntS_any _ _ e1 _ m_g1v.ro (by omega) (by omega) (by omega)).mono ?_
  rintro e w' ⟨rfl, rfl⟩
  go_wp2_with fail
  refine (toIntS_any _ x0 _ (Ro.below R0.out bt18) (by rw [← HL0.out]; omega)).mono ?_
  rintro e W19 ⟨a0, rfl, o_a0, b19⟩
  have o_w0v_19 := o_w0v_18.below b19
  clear o_w0v_18
  have o_w1v_19 := o_w1v_18.below b19
  clear o_w1v_18
  have o_g0v_19 := o_g0v_18.below b19
  clear o_g0v_18
  have o_g1v_19 := m_g1v.below b19
  clear m_g1v
  have bt19 : Below w.heap.size w W19 := bt18.trans (b19.mono bt18.size)
  have z19 := b19.size
  have zt19 := bt19.size
  go_wp2_with fail
  refine (toOrderS_any _ x1 _ (Ros2.below R1.out bt19) (by rw [← HL1.out]; omega)).mono ?_
  rintro e W20 ⟨a1, rfl, o_a1, b20⟩
  have o_w0v_20 := o_w0v_19.below b20
  clear o_w0v_19
  have o_w1v_20 := o_w1v_19.below b20
  clear o_w1v_19
  have o_g0v_20 := o_g0v_19.below b20
  clear o_g0v_19
  have o_g1v_20 := o_g1v_19.below b20
  clear o_g1v_19
  have o_a0_20 := o_a0.below b20
  clear o_a0
  have bt20 : Below w.heap.size w W20 := bt19.trans (b20.mono bt19.size)
  have z20 := b20.size
  have zt20 := bt20.size
  go_wp2_with fail
  refine (bag_any _ _ x0 x1 _ o_a0_20.ro o_a1.ros2 (by rw [← HL0.out, ← HL1.out]; omega)).mono ?_
  rw [HY.out]
  rintro e W21 ⟨h0v, h1v, rfl, o_h0v, o_h1v, -, b21⟩
  have o_w0v_21 := o_w0v_20.below b21
  clear o_w0v_20
  have o_w1v_21 := o_w1v_20.below b21
  clear o_w1v_20
  have o_g0v_21 := o_g0v_20.below b21
  clear o_g0v_20
  have o_g1v_21 := o_g1v_20.below b21
  clear o_g1v_20
  have o_a0_21 := o_a0_20.below b21
  clear o_a0_20
  have o_a1_21 := o_a1.below b21
  clear o_a1
  have bt21 : Below w.heap.size w W21 := bt20.trans (b21.mono bt20.size)
  have z21 := b21.size
  have zt21 := bt21.size
  go_wp2_with fail
  refine (eqIntS_any _ _ y0 _ o_h0v.ro o_w0v_21.ro).mono ?_
  rintro e W22 ⟨rfl, b22⟩
  have o_w0v_22 := o_w0v_21.below b22
  clear o_w0v_21
  have o_w1v_22 := o_w1v_21.below b22
  clear o_w1v_21
  have o_g0v_22 := o_g0v_21.below b22
  clear o_g0v_21
  have o_g1v_22 := o_g1v_21.below b22
  clear o_g1v_21
  have o_a0_22 := o_a0_21.below b22
  clear o_a0_21
  have o_a1_22 := o_a1_21.below b22
  clear o_a1_21
  have o_h0v_22 := o_h0v.below b22
  clear o_h0v
  have o_h1v_22 := o_h1v.below b22
  clear o_h1v
  have bt22 : Below w.heap.size w W22 := bt21.trans (b22.mono bt21.size)
  have z22 := b22.size
  have zt22 := bt22.size
  go_wp2_with fail
  refine (eqIntS_any _ _ y1 _ o_h1v_22.ro o_w1v_22.ro).mono ?_
  rintro e W23 ⟨rfl, b23⟩
  have o_w0v_23 := o_w0v_22.below b23
  clear o_w0v_22
  have o_w1v_23 := o_w1v_22.below b23
  clear o_w1v_22
  have o_g0v_23 := o_g0v_22.below b23
  clear o_g0v_22
  have o_g1v_23 := o_g1v_22.below b23
  clear o_g1v_22
  have o_a0_23 := o_a0_22.below b23
  clear o_a0_22
  have o_a1_23 := o_a1_22.below b23
  clear o_a1_22
  have o_h0v_23 := o_h0v_22.below b23
  clear o_h0v_22
  have o_h1v_23 := o_h1v_22.below b23
  clear o_h1v_22
  have bt23 : Below w.heap.size w W23 := bt22.trans (b23.mono bt22.size)
  have z23 := b23.size
  have zt23 := bt23.size
  go_wp2_with fail
  refine (heldIntS_any _ 1 e0 _ o_g0v_23.ro (by omega) (by omega) (by omega)).mono ?_
  rintro e w' ⟨rfl, rfl⟩
  go_wp2_with fail
  refine (heldIntS_any _ _ e1 _ o_g1v_23.ro (by omega) (by omega) (by omega)).mono ?_
  rintro e w' ⟨rfl, rfl⟩
  go_wp2_with fail
  go_ret
  exact ⟨rfl, bt23⟩

end Go.Proofs.Ytpkdjdofbedncaa

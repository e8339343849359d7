/-
  What is proved here: the walk of the law FnExactSortRows; no other condition. Written by wip/gen/exactk.py.
-/
import Derived.Test.YtiioojnoggcnmaaSortRows
import Derived.Test.YtiioojnoggcnmaaSpecRows
import Derived.Test.YtiioojnoggcnmaaExRow
import Derived.Test.YtiioojnoggcnmaaExactF
namespace Go.Proofs.Ytiioojnoggcnmaa
open Go.RowKit
set_option linter.unusedVariables false

theorem own_apartK {α : Type} {K : Nat} {enc : α → List Int} {E : TypeId} {B g : Nat} {w w' : World} {u : Value} {xs : List α} (h : OwnK K enc E B w u xs) (hg : w.grownBy w' (some g)) (hne : ∀ k, u.ownBlock = some k → k ≠ g) : OwnK K enc E B w' u xs :=
  World.ownsRow.kept h hg (by
    cases hu : u.ownBlock with
    | none => exact .inl rfl
    | some k => exact .inr (fun e => by injection e with e; exact hne k hu e))
theorem own_apartI {E : TypeId} {B g : Nat} {w w' : World} {u : Value} {xs : List Int} (h : Own E B w u xs) (hg : w.grownBy w' (some g)) (hne : ∀ k, u.ownBlock = some k → k ≠ g) : Own E B w' u xs :=
  World.ownsRow.kept h hg (by
    cases hu : u.ownBlock with
    | none => exact .inl rfl
    | some k => exact .inr (fun e => by injection e with e; exact hne k hu e))
theorem own_apartV {α : Type} {K : Nat} {enc : α → List Int} {E : TypeId} {B : Nat} {w w' : World} {u v : Value} {xs : List α} (h : OwnK K enc E B w u xs) (hg : w.grownBy w' v.ownBlock) (hne : ∀ k, u.ownBlock = some k → v.ownBlock = some k → False) : OwnK K enc E B w' u xs :=
  World.ownsRow.kept h hg (by
    cases hu : u.ownBlock with
    | none => exact .inl rfl
    | some k => exact .inr (fun e => hne k hu e.symm))
theorem own_apartC {K : Nat} {E : TypeId} {B g n cap : Nat} {w w' : World} {v : Value} {cs : List Int} (h : OwnC K E B w g n cap cs) (hg : w.grownBy w' v.ownBlock) (hne : v.ownBlock = some g → False) : OwnC K E B w' g n cap cs :=
  World.ownsRow.kept h hg (.inr (fun e => hne e.symm))
theorem ylen_FnExactSortRows (x0 : List (Int × Int × Int)) (x1 : List Int) (h : x0.length ≤ 1048576) : (rsort x0 x1).length ≤ 2097152 := by rw [rsort_len]; omega

set_option maxRecDepth 100000 in
set_option maxHeartbeats 8000000 in
theorem walk_FnExactSortRows (v0 : Value) (x0 : List (Int × Int × Int)) (v1 : Value) (x1 : List Int) (w : World) (h0 : Ros3 w v0 x0) (f0 : ∀ x ∈ x0, (Lit.int .i64 x.1).wf = true ∧ (Lit.int .i64 x.2.1).wf = true ∧ (Lit.int .i64 x.2.2).wf = true) (n0 : x0.length * 24 ≤ 140737488351232) (h1 : Ro w v1 x1) (f1 : ∀ x ∈ x1, (Lit.int .i64 x).wf = true) (n1 : x1.length * 8 ≤ 140737488351232) :
    Calls Try.prog 4 #[v0, v1] w fun e w' => e = .returned (.bool true) ∧ Below w.heap.size w w' := by
  have R0 := Lib.hid h0
  have R1 := Lib.hid h1
  obtain ⟨A1, c1, b1, off1, rfl, hnc1, hcm1, -, -⟩ := Ro.shape h1
  obtain ⟨l1, hl1⟩ : ∃ n, n = x1.length := ⟨_, rfl⟩
  rw [← hl1] at R1 n1 hnc1 ⊢
  have HL1 := Lib.hid hl1
  clear hl1 h1 f1
  unfold maxLen at hcm1
  by_cases big1 : 1048576 < (l1 : Int)
  · go_enter Try.func4, Try.ntmps4
    go_wp2_with fail
    go_ret
    exact ⟨rfl, Below.refl _ _⟩
  have s1 : l1 ≤ 1048576 := by omega
  obtain ⟨l0, hl0⟩ : ∃ n, n = x0.length := ⟨_, rfl⟩
  rw [← hl0] at n0
  have HL0 := Lib.hid hl0
  clear hl0 h0 f0
  by_cases big0 : 1048576 < l0
  · go_enter Try.func4, Try.ntmps4
    go_wp2_with fail
    refine (szRowS_any _ x0 _ R0.out (by rw [← HL0.out]; omega)).mono ?_
    rw [← HL0.out, if_neg (by omega)]
    rintro e w' ⟨rfl, rfl⟩
    go_wp2_with fail
    go_ret
    exact ⟨rfl, Below.refl _ _⟩
  have s0 : l0 ≤ 1048576 := by omega
  generalize hys : rsort x0 x1 = ys
  have hyl : ys.length ≤ 2097152 := by rw [← hys]; exact ylen_FnExactSortRows x0 x1 (by rw [← HL0.out]; exact s0)
  have HY := Lib.hid hys
  clear hys
  obtain ⟨d0, hd0⟩ : ∃ d0 : Int, d0 = 1048576 - (l0 : Int) := ⟨_, rfl⟩
  have hd0n : ¬ d0 < 0 := by omega
  have hd0p : 0 ≤ d0 := by omega
  go_enter Try.func4, Try.ntmps4
  go_wp2_with fail
  refine (szRowS_any _ x0 _ R0.out (by rw [← HL0.out]; omega)).mono ?_
  rw [← HL0.out, if_pos s0, ← hd0]
  clear hd0
  rintro e w' ⟨rfl, rfl⟩
  go_wp2_with fail
  refine (toRowS_any _ x0 _ R0.out (by rw [← HL0.out]; omega)).mono ?_
  rintro e W1 ⟨s0v, rfl, o_s0v, b1⟩
  have bt1 : Below w.heap.size w W1 := b1
  have z1 := b1.size
  have zt1 := bt1.size
  go_wp2_with fail
  refine (toIntS_any _ x1 _ (Ro.below R1.out bt1) (by rw [← HL1.out]; omega)).mono ?_
  rintro e W2 ⟨s1v, rfl, o_s1v, b2⟩
  have o_s0v_2 := o_s0v.below b2
  clear o_s0v
  have bt2 : Below w.heap.size w W2 := bt1.trans (b2.mono bt1.size)
  have z2 := b2.size
  have zt2 := bt2.size
  go_wp2_with fail
  refine (specSortRows_any _ _ x0 x1 _ o_s0v_2.ros3 o_s1v.ro (by rw [← HL0.out]; omega) (by rw [← HL1.out]; omega)).mono ?_
  rw [HY.out]
  rintro e W3 ⟨wv, rfl, o_wv, b3⟩
  have o_s0v_3 := o_s0v_2.below b3
  clear o_s0v_2
  have o_s1v_3 := o_s1v.below b3
  clear o_s1v
  have bt3 : Below w.heap.size w W3 := bt2.trans (b3.mono bt2.size)
  have z3 := b3.size
  have zt3 := bt3.size
  have LT_wv := Lib.hid (World.ownsRow.lt o_wv)
  clear o_s0v_3
  clear o_s1v_3
  go_wp2_with fail
  refine (toRowS_some _ x0 _ (Ros3.below R0.out bt3) (by rw [← HL0.out]; omega)).mono ?_
  rintro e W4 ⟨g_xv, k_xv, c_xv, rfl, o_xv, b4⟩
  have o_wv_4 := o_wv.below b4
  clear o_wv
  have bt4 : Below w.heap.size w W4 := bt3.trans (b4.mono bt3.size)
  have z4 := b4.size
  have zt4 := bt4.size
  have lt_xv := o_xv.lt
  have LT_xv := Lib.hid lt_xv
  clear lt_xv
  go_wp2_with fail
  refine (toIntS_any _ x1 _ (Ro.below R1.out bt4) (by rw [← HL1.out]; omega)).mono ?_
  rintro e W5 ⟨kv, rfl, o_kv, b5⟩
  have o_wv_5 := o_wv_4.below b5
  clear o_wv_4
  have o_xv_5 := o_xv.below b5
  clear o_xv
  have bt5 : Below w.heap.size w W5 := bt4.trans (b5.mono bt4.size)
  have z5 := b5.size
  have zt5 := bt5.size
  have LT_kv := Lib.hid (World.ownsRow.lt o_kv)
  go_wp2_with fail
  refine (sortRows_some _ _ x0 x1 _ o_xv_5.ros3 o_kv.ro (by rw [← HL0.out]; omega) (by rw [← HL1.out]; omega)).mono ?_
  rw [HY.out]
  rintro e W6 ⟨g_gv, k_gv, c_gv, rfl, o_gv, b6⟩
  have o_wv_6 := o_wv_5.below b6
  clear o_wv_5
  have o_xv_6 := o_xv_5.below b6
  clear o_xv_5
  have o_kv_6 := o_kv.below b6
  clear o_kv
  have bt6 : Below w.heap.size w W6 := bt5.trans (b6.mono bt5.size)
  have z6 := b6.size
  have zt6 := bt6.size
  have lt_gv := o_gv.lt
  have LT_gv := Lib.hid lt_gv
  clear lt_gv
  go_wp2_with fail
  refine (eqRowS_any _ _ ys _ o_gv.ros3 o_wv_6.ros3).mono ?_
  rintro e W7 ⟨rfl, b7⟩
  have o_wv_7 := o_wv_6.below b7
  clear o_wv_6
  have o_xv_7 := o_xv_6.below b7
  clear o_xv_6
  have o_kv_7 := o_kv_6.below b7
  clear o_kv_6
  have o_gv_7 := o_gv.below b7
  clear o_gv
  have bt7 : Below w.heap.size w W7 := bt6.trans (b7.mono bt6.size)
  have z7 := b7.size
  have zt7 := bt7.size
  go_wp2_with fail
  refine (toRowS_any _ x0 _ (Ros3.below R0.out bt7) (by rw [← HL0.out]; omega)).mono ?_
  rintro e W8 ⟨tv, rfl, o_tv, b8⟩
  have o_wv_8 := o_wv_7.below b8
  clear o_wv_7
  have o_xv_8 := o_xv_7.below b8
  clear o_xv_7
  have o_kv_8 := o_kv_7.below b8
  clear o_kv_7
  have o_gv_8 := o_gv_7.below b8
  clear o_gv_7
  have bt8 : Below w.heap.size w W8 := bt7.trans (b8.mono bt7.size)
  have z8 := b8.size
  have zt8 := bt8.size
  go_wp2_with fail
  refine (eqRowS_any _ _ x0 _ o_xv_8.ros3 o_tv.ros3).mono ?_
  rintro e W9 ⟨rfl, b9⟩
  have o_wv_9 := o_wv_8.below b9
  clear o_wv_8
  have o_xv_9 := o_xv_8.below b9
  clear o_xv_8
  have o_kv_9 := o_kv_8.below b9
  clear o_kv_8
  have o_gv_9 := o_gv_8.below b9
  clear o_gv_8
  have o_tv_9 := o_tv.below b9
  clear o_tv
  have bt9 : Below w.heap.size w W9 := bt8.trans (b9.mono bt8.size)
  have z9 := b9.size
  have zt9 := bt9.size
  clear o_tv_9
  go_wp2_with fail
  refine (toIntS_any _ x1 _ (Ro.below R1.out bt9) (by rw [← HL1.out]; omega)).mono ?_
  rintro e W10 ⟨iv, rfl, o_iv, b10⟩
  have o_wv_10 := o_wv_9.below b10
  clear o_wv_9
  have o_xv_10 := o_xv_9.below b10
  clear o_xv_9
  have o_kv_10 := o_kv_9.below b10
  clear o_kv_9
  have o_gv_10 := o_gv_9.below b10
  clear o_gv_9
  have bt10 : Below w.heap.size w W10 := bt9.trans (b10.mono bt9.size)
  have z10 := b10.size
  have zt10 := bt10.size
  go_wp2_with fail
  refine (eqIntS_any _ _ x1 _ o_kv_10.ro o_iv.ro).mono ?_
  rintro e W11 ⟨rfl, b11⟩
  have o_wv_11 := o_wv_10.below b11
  clear o_wv_10
  have o_xv_11 := o_xv_10.below b11
  clear o_xv_10
  have o_kv_11 := o_kv_10.below b11
  clear o_kv_10
  have o_gv_11 := o_gv_10.below b11
  clear o_gv_10
  have o_iv_11 := o_iv.below b11
  clear o_iv
  have bt11 : Below w.heap.size w W11 := bt10.trans (b11.mono bt10.size)
  have z11 := b11.size
  have zt11 := bt11.size
  clear o_iv_11
  go_wp2_with fail
  refine (markRowS_any 1 _ _ _ _ _ _ o_xv_11.flat (by omega) (by omega) (by have := LT_xv.out; have := HL0.out; omega)).mono ?_
  rintro e W12 ⟨rfl, m_xv, gr12⟩
  have o_wv_12 := own_apartK o_wv_11 gr12 (fun k hk => by have h3 := LT_wv.out k hk; have h4 := LT_xv.out; omega)
  clear o_wv_11
  have o_kv_12 := own_apartI o_kv_11 gr12 (fun k hk => by have h3 := LT_kv.out k hk; have h4 := LT_xv.out; omega)
  clear o_kv_11
  have o_gv_12 := own_apartK o_gv_11 gr12 (fun k hk => by simp [Value.ownBlock] at hk; have h3 := LT_gv.out; have h4 := LT_xv.out; omega)
  clear o_gv_11
  have bt12 : Below w.heap.size w W12 := bt11.grown gr12 bt11.size (fun k hk => by injection hk with hk; have h4 := LT_xv.out; omega)
  have z12 := gr12.size
  have zt12 := bt12.size
  clear o_xv_11
  go_wp2_with fail
  refine (markIntS_any _ _ _ _ _ o_kv_12 (by have := LT_xv.out; have := HL0.out; omega) (by have := LT_xv.out; have := HL0.out; omega) (by rw [← HL1.out]; omega)).mono ?_
  rintro e W13 ⟨rfl, m_kv, gr13⟩
  have o_wv_13 := own_apartV o_wv_12 gr13 (fun k hk h2 => by have h3 := LT_wv.out k hk; have h4 := LT_kv.out k h2; omega)
  clear o_wv_12
  have o_xv_13 := own_apartC m_xv gr13 (fun h2 => by have h3 := LT_xv.out; have h4 := LT_kv.out _ h2; omega)
  clear m_xv
  have o_gv_13 := own_apartV o_gv_12 gr13 (fun k hk h2 => by simp [Value.ownBlock] at hk; have h3 := LT_gv.out; have h4 := LT_kv.out k h2; omega)
  clear o_gv_12
  have bt13 : Below w.heap.size w W13 := bt12.grown gr13 bt12.size (fun k hk => by have h4 := LT_kv.out k hk; omega)
  have z13 := gr13.size
  have zt13 := bt13.size
  clear o_kv_12
  clear m_kv
  clear o_xv_13
  go_wp2_with fail
  refine (eqRowS_any _ _ ys _ o_gv_13.ros3 o_wv_13.ros3).mono ?_
  rintro e W14 ⟨rfl, b14⟩
  have o_wv_14 := o_wv_13.below b14
  clear o_wv_13
  have o_gv_14 := o_gv_13.below b14
  clear o_gv_13
  have bt14 : Below w.heap.size w W14 := bt13.trans (b14.mono bt13.size)
  have z14 := b14.size
  have zt14 := bt14.size
  go_wp2_with fail
  refine (markRowS_any 1 _ _ _ _ _ _ o_gv_14.flat (by omega) (by omega) (by have := LT_gv.out; have := HL0.out; omega)).mono ?_
  rintro e W15 ⟨rfl, m_gv, gr15⟩
  have o_wv_15 := own_apartK o_wv_14 gr15 (fun k hk => by have h3 := LT_wv.out k hk; have h4 := LT_gv.out; omega)
  clear o_wv_14
  have bt15 : Below w.heap.size w W15 := bt14.grown gr15 bt14.size (fun k hk => by injection hk with hk; have h4 := LT_gv.out; omega)
  have z15 := gr15.size
  have zt15 := bt15.size
  clear o_gv_14
  go_wp2_with fail
  refine (heldRowS_any 1 _ _ _ _ _ m_gv (by omega) (by omega) (by have := LT_gv.out; have := HL0.out; omega)).mono ?_
  rintro e w' ⟨rfl, rfl⟩
  go_wp2_with fail
  refine (toRowS_any _ x0 _ (Ros3.below R0.out bt15) (by rw [← HL0.out]; omega)).mono ?_
  rintro e W16 ⟨uv, rfl, o_uv, b16⟩
  have o_wv_16 := o_wv_15.below b16
  clear o_wv_15
  have o_gv_16 := m_gv.below b16
  clear m_gv
  have bt16 : Below w.heap.size w W16 := bt15.trans (b16.mono bt15.size)
  have z16 := b16.size
  have zt16 := bt16.size
  go_wp2_with fail
  refine (toIntS_any _ x1 _ (Ro.below R1.out bt16) (by rw [← HL1.out]; omega)).mono ?_
  rintro e W17 ⟨jv, rfl, o_jv, b17⟩
  have o_wv_17 := o_wv_16.below b17
  clear o_wv_16
  have o_gv_17 := o_gv_16.below b17
  clear o_gv_16
  have o_uv_17 := o_uv.below b17
  clear o_uv
  have bt17 : Below w.heap.size w W17 := bt16.trans (b17.mono bt16.size)
  have z17 := b17.size
  have zt17 := bt17.size
  go_wp2_with fail
  refine (sortRows_some _ _ x0 x1 _ o_uv_17.ros3 o_jv.ro (by rw [← HL0.out]; omega) (by rw [← HL1.out]; omega)).mono ?_
  rw [HY.out]
  rintro e W18 ⟨g_hv, k_hv, c_hv, rfl, o_hv, b18⟩
  have o_wv_18 := o_wv_17.below b18
  clear o_wv_17
  have o_gv_18 := o_gv_17.below b18
  clear o_gv_17
  have o_uv_18 := o_uv_17.below b18
  clear o_uv_17
  have o_jv_18 := o_jv.below b18
  clear o_jv
  have bt18 : Below w.heap.size w W18 := bt17.trans (b18.mono bt17.size)
  have z18 := b18.size
  have zt18 := bt18.size
  go_wp2_with fail
  refine (eqRowS_any _ _ ys _ o_hv.ros3 o_wv_18.ros3).mono ?_
  rintro e W19 ⟨rfl, b19⟩
  have o_wv_19 := o_wv_18.below b19
  clear o_wv_18
  have o_gv_19 := o_gv_18.below b19
  clear o_gv_18
  have o_uv_19 := o_uv_18.below b19
  clear o_uv_18
  have o_jv_19 := o_jv_18.below b19
  clear o_jv_18
  have o_hv_19 := o_hv.below b19
  clear o_hv
  have bt19 : Below w.heap.size w W19 := bt18.trans (b19.mono bt18.size)
  have z19 := b19.size
  have zt19 := bt19.size
  go_wp2_with fail
  refine (heldRowS_any 1 _ _ _ _ _ o_gv_19 (by omega) (by omega) (by have := LT_gv.out; have := HL0.out; omega)).mono ?_
  rintro e w' ⟨rfl, rfl⟩
  go_wp2_with fail
  go_ret
  exact ⟨rfl, bt19⟩

end Go.Proofs.Ytiioojnoggcnmaa

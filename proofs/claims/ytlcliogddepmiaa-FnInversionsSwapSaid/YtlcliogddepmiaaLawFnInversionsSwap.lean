/-
  What is proved here: the walk of the law FnInversionsSwap; no other condition.
-/
import Derived.Test.YtlcliogddepmiaaInv
import Derived.Test.YtlcliogddepmiaaInvMore
import Derived.Test.YtlcliogddepmiaaWf
import Derived.Test.YtlcliogddepmiaaUnite
import Derived.Test.YtlcliogddepmiaaSame
namespace Go.Proofs.Ytlcliogddepmiaa
open Go.RowKit
set_option linter.unusedVariables false

theorem swap_parts {x : List Int} {i : Nat} {p q : Int} (hp : x[i]? = some p) (hq : x[i + 1]? = some q) : x = x.take i ++ [p, q] ++ x.drop (i + 2) ∧ (x.set i q).set (i + 1) p = x.take i ++ [q, p] ++ x.drop (i + 2) := by
  obtain ⟨h1, h2⟩ := List.getElem?_eq_some_iff.1 hp
  obtain ⟨h3, h4⟩ := List.getElem?_eq_some_iff.1 hq
  have e : x = x.take i ++ [p, q] ++ x.drop (i + 2) := by
    conv => lhs; rw [← List.take_append_drop i x, List.drop_eq_getElem_cons h1, List.drop_eq_getElem_cons h3, h2, h4]
    simp
  refine ⟨e, ?_⟩
  have hl : (x.take i).length = i := by rw [List.length_take]; omega
  conv => lhs; rw [e]
  rw [List.append_assoc, List.set_append_right _ _ (by omega), hl, Nat.sub_self]
  simp only [List.cons_append, List.nil_append, List.set_cons_zero]
  rw [List.set_append_right _ _ (by omega), hl, show i + 1 - i = 1 by omega]
  simp
theorem wrap_diff (a b : Int) (d : Int) (h : a - b = d) (h1 : -1 ≤ d) (h2 : d ≤ 1) : wrap64 (IntKind.i64.wrap a - IntKind.i64.wrap b) = d := by
  rw [IntKind.wrap_i64, IntKind.wrap_i64]
  unfold wrap64
  omega

set_option maxRecDepth 100000 in
set_option maxHeartbeats 8000000 in
theorem walk_FnInversionsSwap (v0 : Value) (x0 : List Int) (a1 : Int) (w : World) (h0 : Ro w v0 x0) (f0 : ∀ x ∈ x0, (Lit.int .i64 x).wf = true) (n0 : x0.length * 8 ≤ 140737488351232) (f1 : (Lit.int .i64 a1).wf = true) :
    Calls Try.prog 4 #[v0, .int .i64 a1] w fun e w' => e = .returned (.bool true) ∧ Below w.heap.size w w' := by
  have R_v0 := Lib.hid h0
  clear h0 f0
  clear f1
  obtain ⟨A0, c0, b0, off0, rfl, hnc0, hcm0, -, -⟩ := R_v0.out.shape
  obtain ⟨l0, hl0⟩ : ∃ n, n = x0.length := ⟨_, rfl⟩
  rw [← hl0] at R_v0 n0 hnc0 ⊢
  have HL0 := Lib.hid hl0
  clear hl0
  unfold maxLen at hcm0
  have B_v0 := R_v0
  by_cases hs : l0 < 2
  · have hz : (inv x0 : Nat) = 0 := by
      match x0, HL0.out with
      | [], _ => rfl
      | [a], _ => rfl
      | a :: b :: r, h => simp at h; omega
    have hs2 : (l0 : Int) < 2 := by omega
    have HZ := Lib.hid (show IntKind.i64.wrap ((inv x0 : Nat) : Int) = 0 by rw [hz]; rfl)
    clear hz
    go_enter Try.func4, Try.ntmps4
    go_wp2_with fail
    refine (inversionsW_any _ x0 _ R_v0.out (by rw [← HL0.out]; omega)).mono ?_
    rw [HZ.out]
    rintro e W1 ⟨rfl, b1⟩
    go_wp2_with fail
    refine (works_any _).mono ?_
    rintro e W2 ⟨rfl, b2⟩
    go_wp2_with fail
    go_ret
    exact ⟨rfl, b1.trans (b2.mono b1.size)⟩
  have hs2 : ¬ (l0 : Int) < 2 := by omega
  obtain ⟨q, hq⟩ : ∃ q : Nat, (q : Int) = a1 % ((l0 : Int) - 1) := ⟨(a1 % ((l0 : Int) - 1)).toNat, by have := Int.emod_nonneg a1 (show (l0 : Int) - 1 ≠ 0 by omega); omega⟩
  have hqn : q + 1 < l0 := by have := Int.emod_lt_of_pos a1 (show (0 : Int) < (l0 : Int) - 1 by omega); omega
  have HQ := Lib.hid hq
  obtain ⟨x, hx⟩ := get_some HL0.out (show q < l0 by omega)
  obtain ⟨y, hy⟩ := get_some HL0.out hqn
  obtain ⟨hp1, hp2⟩ := swap_parts hx hy
  have hdiff : ((inv ((x0.set q y).set (q + 1) x) : Nat) : Int) - ((inv x0 : Nat) : Int) = (if x < y then 1 else 0) - (if y < x then 1 else 0) := by
    have h := inv_swap (x0.take q) (x0.drop (q + 2)) x y
    rw [← hp1, ← hp2] at h
    exact h
  obtain ⟨cA, hA⟩ : ∃ c : Int, c = IntKind.i64.wrap ((inv ((x0.set q y).set (q + 1) x) : Nat) : Int) := ⟨_, rfl⟩
  obtain ⟨cB, hB⟩ : ∃ c : Int, c = IntKind.i64.wrap ((inv x0 : Nat) : Int) := ⟨_, rfl⟩
  have hd : wrap64 (cA - cB) = (if x < y then 1 else 0) - (if y < x then 1 else 0) := by
    rw [hA, hB]
    exact wrap_diff _ _ _ hdiff (by split <;> split <;> omega) (by split <;> split <;> omega)
  obtain ⟨b2, o2, hA2, hcx, hbl2⟩ := R_v0.out.at hx
  obtain ⟨b3, o3, hA3, hcy, -⟩ := R_v0.out.at hy
  rw [hA2] at hA3
  simp only [Option.some.injEq, Addr.mk.injEq, and_true] at hA3
  obtain ⟨rfl, rfl⟩ := hA3
  subst hA2
  have HA := Lib.hid hA
  have HB := Lib.hid hB
  have HD := Lib.hid hd
  have HX := Lib.hid hx
  have HY := Lib.hid hy
  have HSRC := Lib.hid (Ro.src R_v0.out).2
  clear hq hp1 hp2 hdiff hA hB hd hx hy
  have z0 : (0 : Int) ≤ (q : Int) := by omega
  have z1 : (q : Int) < (l0 : Int) := by omega
  have z2 : (q : Int) + 1 < (l0 : Int) := by omega
  have z3 : (0 : Int) ≤ (q : Int) + 1 := by omega
  have z4 : ((q : Int) + 1).toNat = q + 1 := by omega
  go_enter Try.func4, Try.ntmps4
  go_wp2_with fail
  refine (specAt_any a1 ((l0 : Int) - 1) _ (by omega) (by omega)).mono ?_
  rw [← HQ.out]
  rintro e w' ⟨rfl, rfl⟩
  go_wp2_with (at_builtin; refine wpList_app _ rfl (.tmp 21) (.tmp 22) rfl ints_ok w.heap.size w.heap.size 0 0 [] (by rfl) (ownE _ (Nat.le_refl _)) _ l0 c0 (x0.map (Value.int .i64)) (by rfl) (HSRC.out.alloc _) (by unfold maxLen; omega) (by omega) (by simp) l0 (by omega) _ rfl ?_; intro g3 cap3 w3 hown3 hgrow3 hat3; have hg3 := (hown3.lt g3 rfl).1; have hcx3 := (hgrow3.cell_far ⟨b2, o2 + q, none⟩ (by simp; omega) (by simp; omega)).trans ((World.cell?_alloc_lt w _ _ (by simpa using hbl2)).trans hcx); have hcy3 := (hgrow3.cell_far ⟨b2, o2 + (q + 1), none⟩ (by simp; omega) (by simp; omega)).trans ((World.cell?_alloc_lt w _ _ (by simpa using hbl2)).trans hcy); have hd0 : w3.cell? ⟨g3, q, none⟩ = some (.int .i64 x) := (hown3.cellAt q (by omega)).trans (by simp [HX.out]); have hf0 := hown3.frozenAt q; have hd1 : w3.cell? ⟨g3, q + 1, none⟩ = some (.int .i64 y) := (hown3.cellAt (q + 1) (by omega)).trans (by simp [HY.out]); have hf1 := hown3.frozenAt (q + 1); have hne : ¬ b2 = g3 := (by omega); have hne2 : ¬ g3 = b2 := (by omega); have HOW := Lib.hid hown3; have HGR := Lib.hid hgrow3; clear hown3 hgrow3 hat3 hcx hcy)
  have hO4 : Own 3 w.heap.size ((w3.setCell ⟨g3, q, none⟩ (.int .i64 y)).setCell ⟨g3, q + 1, none⟩ (.int .i64 x)) (.slice (some ⟨g3, 0, none⟩) l0 cap3) ((x0.set q y).set (q + 1) x) := by
    have s1 := (HOW.out.stored q (.int .i64 y)).1
    have s2 := (s1.stored (q + 1) (.int .i64 x)).1
    refine own_ro ?_ (by rw [List.length_set, List.length_set, ← HL0.out])
    rw [List.map_set, List.map_set]
    simpa using s2
  have bt4 : Below w.heap.size w ((w3.setCell ⟨g3, q, none⟩ (.int .i64 y)).setCell ⟨g3, q + 1, none⟩ (.int .i64 x)) :=
    ((below_app HGR.out (Nat.le_refl _) ((Below.refl _ _).alloc (Nat.le_refl _) _)).setCell (p := ⟨g3, q, none⟩) hg3 _).setCell (p := ⟨g3, q + 1, none⟩) hg3 _
  have R_y := Lib.hid hO4.ro
  clear hO4 HOW HGR hcx3 hcy3 hd0 hd1 hf0 hf1
  refine (inversionsW_any _ ((x0.set q y).set (q + 1) x) _ R_y.out (by rw [List.length_set, List.length_set, ← HL0.out]; omega)).mono ?_
  rw [← HA.out]
  rintro e W5 ⟨rfl, b5⟩
  have bt5 : Below w.heap.size w W5 := bt4.trans (b5.mono bt4.size)
  clear b5 bt4 R_y
  go_wp2_with fail
  refine (inversionsW_any _ x0 _ (B_v0.out.below bt5) (by rw [← HL0.out]; omega)).mono ?_
  rw [← HB.out]
  rintro e W6 ⟨rfl, b6⟩
  have bt6 : Below w.heap.size w W6 := bt5.trans (b6.mono bt5.size)
  clear b6 bt5
  obtain ⟨b4, o4, e4, hcx6, -⟩ := (B_v0.out.below bt6).at HX.out
  simp only [Option.some.injEq, Addr.mk.injEq, and_true] at e4
  obtain ⟨rfl, rfl⟩ := e4
  obtain ⟨b5, o5, e5, hcy6, -⟩ := (B_v0.out.below bt6).at HY.out
  simp only [Option.some.injEq, Addr.mk.injEq, and_true] at e5
  obtain ⟨rfl, rfl⟩ := e5
  have y6 : IntKind.i64.wrap ((q : Int) + 1) = (q : Int) + 1 := IntWalk.i64_in _ (by omega)
  clear HA HB HX HY HSRC R_v0 B_v0 hne hne2
  by_cases hxy : x < y
  · have hyx : ¬ y < x := by omega
    have hd : wrap64 (cA - cB) = 1 := by have h := HD.out; rw [if_pos hxy, if_neg hyx] at h; exact h
    go_wp2_with fail
    go_quiet (fail)
    clear y6
    go_wp2_with fail
    refine (works_any _).mono ?_
    rintro e W7 ⟨rfl, b7⟩
    go_wp2_with fail
    go_ret
    exact ⟨rfl, (below_drawn bt6 _).trans (b7.mono bt6.size)⟩
  · by_cases hyx : y < x
    · have hd : wrap64 (cA - cB) = -1 := by have h := HD.out; rw [if_neg hxy, if_pos hyx] at h; exact h
      go_wp2_with fail
      go_quiet (fail)
      go_wp2_with fail
      go_quiet (fail)
      clear y6
      go_wp2_with fail
      refine (works_any _).mono ?_
      rintro e W7 ⟨rfl, b7⟩
      go_wp2_with fail
      go_ret
      exact ⟨rfl, (below_drawn bt6 _).trans (b7.mono bt6.size)⟩
    · have hd : wrap64 (cA - cB) = 0 := by have h := HD.out; rw [if_neg hxy, if_neg hyx] at h; exact h
      go_wp2_with fail
      go_quiet (fail)
      go_wp2_with fail
      go_quiet (fail)
      clear y6
      go_wp2_with fail
      refine (works_any _).mono ?_
      rintro e W7 ⟨rfl, b7⟩
      go_wp2_with fail
      go_ret
      exact ⟨rfl, (below_drawn bt6 _).trans (b7.mono bt6.size)⟩

end Go.Proofs.Ytlcliogddepmiaa

/-
  What is proved here: the walk of the law FnCutMore; no other condition.
-/
import Derived.Test.YtjnjeofoapaoeaaCut
import Derived.Test.YtjnjeofoapaoeaaCutMore
import Derived.Test.YtjnjeofoapaoeaaWf
import Derived.Test.YtjnjeofoapaoeaaUnite
import Derived.Test.YtjnjeofoapaoeaaSame
namespace Go.Proofs.Ytjnjeofoapaoeaa
open Go.RowKit
set_option linter.unusedVariables false

theorem lds_set {xs : List Int} {i : Nat} {z : Int} {l : Nat} (hz : z % 1000 = (l : Int)) : lds (xs.set i z) = (lds xs).set i l := by
  unfold lds
  rw [List.map_set]
  congr 1
  omega

set_option maxRecDepth 100000 in
set_option maxHeartbeats 8000000 in
theorem walk_FnCutMore (v0 : Value) (x0 : List Int) (a1 : Int) (a2 : Int) (a3 : Int) (w : World) (h0 : Ro w v0 x0) (f0 : ∀ x ∈ x0, (Lit.int .i64 x).wf = true) (n0 : x0.length * 8 ≤ 140737488351232) (f1 : (Lit.int .i64 a1).wf = true) (f2 : (Lit.int .i64 a2).wf = true) (f3 : (Lit.int .i64 a3).wf = true) :
    Calls Try.prog 7 #[v0, .int .i64 a1, .int .i64 a2, .int .i64 a3] w fun e w' => e = .returned (.bool true) ∧ Below w.heap.size w w' := by
  have R_v0 := Lib.hid h0
  clear h0 f0
  clear f1
  clear f2
  clear f3
  obtain ⟨A0, c0, b0, off0, rfl, hnc0, hcm0, -, -⟩ := R_v0.out.shape
  obtain ⟨l0, hl0⟩ : ∃ n, n = x0.length := ⟨_, rfl⟩
  rw [← hl0] at R_v0 n0 hnc0 ⊢
  have HL0 := Lib.hid hl0
  clear hl0
  unfold maxLen at hcm0
  have B_v0 := R_v0
  obtain ⟨p, hp⟩ : ∃ p : Nat, a3 % 10 = (p : Int) := ⟨(a3 % 10).toNat, by omega⟩
  have HP := Lib.hid hp
  clear hp
  have hls : (lds x0).sum ≤ 999 * l0 := by have h := lds_sum x0 x0.length; rw [List.take_of_length_le (by rw [lds_len]; exact Nat.le_refl _), ← HL0.out] at h; exact h
  rcases Nat.eq_zero_or_pos l0 with h0 | h0
  · subst h0
    go_enter Try.func7, Try.ntmps7
    go_wp2_with fail
    refine (cut_any _ x0 a3 p _ R_v0.out (by rw [← HL0.out]; omega) HP.out).mono ?_
    rintro e W1 ⟨c, rfl, i1, s1, b1⟩
    obtain rfl : c = 0 := by omega
    clear i1
    go_wp2_with fail
    refine (works_any _).mono ?_
    rintro e W2 ⟨rfl, b2⟩
    go_wp2_with fail
    go_ret
    exact ⟨rfl, b1.trans (b2.mono b1.size)⟩
  have hn0 : ¬ l0 = 0 := by omega
  have hn1 : ((l0 : Int) == 0) = false := by simp; omega
  obtain ⟨q, hq⟩ : ∃ q : Nat, (q : Int) = a1 % (l0 : Int) := ⟨(a1 % (l0 : Int)).toNat, by have := Int.emod_nonneg a1 (show (l0 : Int) ≠ 0 by omega); omega⟩
  have hqn : q < l0 := by have := Int.emod_lt_of_pos a1 (show (0 : Int) < (l0 : Int) by omega); omega
  have HQ := Lib.hid hq
  obtain ⟨x, hx⟩ := get_some HL0.out hqn
  obtain ⟨l, hl⟩ : ∃ l : Nat, x % 1000 = (l : Int) := ⟨(x % 1000).toNat, by omega⟩
  obtain ⟨d0, hd0⟩ : ∃ d : Nat, a2 % 1000 = (d : Int) := ⟨(a2 % 1000).toNat, by omega⟩
  have hl9 : l < 1000 := by omega
  have hd9 : d0 < 1000 := by omega
  obtain ⟨b2, o2, hA2, hcx, hbl2⟩ := R_v0.out.at hx
  subst hA2
  have HX := Lib.hid hx
  have HL := Lib.hid hl
  have HD0 := Lib.hid hd0
  have HSRC := Lib.hid (Ro.src R_v0.out).2
  clear hq hx hl hd0
  have z0 : (0 : Int) ≤ (q : Int) := by omega
  have z1 : (q : Int) < (l0 : Int) := by omega
  go_enter Try.func7, Try.ntmps7
  go_wp2_with fail
  refine (specAt_any a1 (l0 : Int) _ (by omega) (by omega)).mono ?_
  rw [← HQ.out]
  rintro e w' ⟨rfl, rfl⟩
  go_wp2_with (at_builtin; refine wpList_app _ rfl (.tmp 26) (.tmp 27) rfl ints_ok w.heap.size w.heap.size 0 0 [] (by rfl) (ownE _ (Nat.le_refl _)) _ l0 c0 (x0.map (Value.int .i64)) (by rfl) (HSRC.out.alloc _) (by unfold maxLen; omega) (by omega) (by simp) l0 (by omega) _ rfl ?_; intro g3 cap3 w3 hown3 hgrow3 hat3; have hg3 := (hown3.lt g3 rfl).1; have hcx3 := (hgrow3.cell_far ⟨b2, o2 + q, none⟩ (by simp; omega) (by simp; omega)).trans ((World.cell?_alloc_lt w _ _ (by simpa using hbl2)).trans hcx); have hd0 : w3.cell? ⟨g3, q, none⟩ = some (.int .i64 x) := (hown3.cellAt q (by omega)).trans (by simp [HX.out]); have hf0 := hown3.frozenAt q; have hne : ¬ b2 = g3 := (by omega); have hne2 : ¬ g3 = b2 := (by omega); have HOW := Lib.hid hown3; have HGR := Lib.hid hgrow3; clear hown3 hgrow3 hat3 hcx)
  refine (specAt_any x 1000 _ (by omega) (by omega)).mono ?_
  rw [HL.out]
  rintro e w' ⟨rfl, rfl⟩
  go_wp2_with fail
  have s1 := (HOW.out.stored q (.int .i64 (l : Int))).1
  have bt3 : Below w.heap.size w (w3.setCell ⟨g3, q, none⟩ (.int .i64 (l : Int))) := (below_app HGR.out (Nat.le_refl _) ((Below.refl _ _).alloc (Nat.le_refl _) _)).setCell (p := ⟨g3, q, none⟩) hg3 _
  generalize w3.setCell ⟨g3, q, none⟩ (.int .i64 (l : Int)) = W4 at s1 bt3 ⊢
  have hO4 : Own 3 w.heap.size W4 (.slice (some ⟨g3, 0, none⟩) l0 cap3) (x0.set q (l : Int)) := by
    refine own_ro ?_ (by rw [List.length_set, ← HL0.out])
    rw [List.map_set]
    simpa using s1
  have hx4 : (x0.set q (l : Int))[q]? = some (l : Int) := by rw [List.getElem?_set_self (by rw [← HL0.out]; exact hqn)]
  have hc4 := (own_cell hO4 hx4).1
  have hf4 := (own_cell hO4 hx4).2
  have HO4 := Lib.hid hO4
  clear s1 hO4 hx4 HOW HGR hcx3 hd0 hf0 hne hne2
  have y1 : IntKind.i64.wrap (999 - (l : Int)) = 999 - (l : Int) := IntWalk.i64_in _ (by omega)
  have hqt : ∀ m, Calls Try.prog 15 #[.int .i64 a2, .int .i64 1000] (W4.drewN m) fun e w'' => e = .returned (.int .i64 (d0 : Int)) ∧ ∃ k, w'' = W4.drewN k := fun m => by
    have h := specAt_any a2 1000 (W4.drewN m) (by omega) (by omega)
    rw [HD0.out] at h
    exact h.mono fun _ _ ⟨he, hm⟩ => ⟨he, m, hm.symm⟩
  have HQT := Lib.hid hqt
  clear hqt
  obtain ⟨d, hd⟩ : ∃ d : Nat, d = min d0 (999 - l) := ⟨_, rfl⟩
  have hdl : d + l ≤ 999 := by omega
  by_cases hc : d0 ≤ 999 - l
  · obtain rfl : d = d0 := by omega
    have y2 : (d : Int) ≤ 999 - (l : Int) := by omega
    have y3 : min (d : Int) (999 - (l : Int)) = (d : Int) := by omega
    have y4 : ¬ 999 - (l : Int) < (d : Int) := by omega
    clear hd
    go_quiet ((go_at_call 15; exact HQT.out _))
    clear y1
    go_wp2_with fail
    have hO5 : Own 3 w.heap.size ((W4.drewN nq).setCell ⟨g3, q, none⟩ (.int .i64 ((l : Int) + (d : Int)))) (.slice (some ⟨g3, 0, none⟩) l0 cap3) (x0.set q ((l : Int) + (d : Int))) := by
      have h4 : (W4.drewN nq).ownsRow w.heap.size 3 1 (.slice (some ⟨g3, 0, none⟩) l0 cap3) l0 ((x0.set q (l : Int)).map (Value.int .i64)) := by
        have h := HO4.out
        unfold Own at h
        rw [List.length_set, ← HL0.out] at h
        exact h
      have s2 := (h4.stored q (.int .i64 ((l : Int) + (d : Int)))).1
      refine own_ro ?_ (by rw [List.length_set, ← HL0.out])
      rw [← List.map_set, List.set_set] at s2
      exact s2
    have bt5 : Below w.heap.size w ((W4.drewN nq).setCell ⟨g3, q, none⟩ (.int .i64 ((l : Int) + (d : Int)))) := (below_drawn bt3 nq).setCell (p := ⟨g3, q, none⟩) hg3 _
    have R_y := Lib.hid hO5.ro
    clear hO5 HO4
    refine (cut_any _ x0 a3 p _ (B_v0.out.below bt5) (by rw [← HL0.out]; omega) HP.out).mono ?_
    rintro e W6 ⟨ca, rfl, ia, sa, b6⟩
    replace R_y := Lib.hid (R_y.out.below b6)
    have bt6 : Below w.heap.size w W6 := bt5.trans (b6.mono bt5.size)
    have IA := Lib.hid ia
    clear b6 bt5 ia
    go_wp2_with fail
    refine (cut_any _ (x0.set q ((l : Int) + (d : Int))) a3 p _ R_y.out (by rw [List.length_set, ← HL0.out]; omega) HP.out).mono ?_
    rw [lds_set (l := l + d) (by omega)]
    rintro e W7 ⟨cb, rfl, ib, sb, b7⟩
    have bt7 : Below w.heap.size w W7 := bt6.trans (b7.mono bt6.size)
    obtain ⟨k1, k2⟩ := cut_more (d := d) (show (lds x0)[q]? = some l by unfold lds; rw [List.getElem?_map, HX.out, Option.map_some, HL.out]; rfl) IA.out ib
    have j1 : (ca : Int) ≤ (cb : Int) := by omega
    have j2 : (cb : Int) ≤ (ca : Int) + (d : Int) := by omega
    clear b7 bt6 ib sb
    go_wp2_with fail
    refine (works_any _).mono ?_
    rintro e W8 ⟨rfl, b8⟩
    go_wp2_with fail
    go_ret
    exact ⟨rfl, bt7.trans (b8.mono bt7.size)⟩
  · have hdv : d = 999 - l := by omega
    have y1' : IntKind.i64.wrap (999 - (l : Int)) = (d : Int) := by rw [y1]; omega
    have y2 : (d : Int) ≤ (d0 : Int) := by omega
    have y3 : min (d0 : Int) (d : Int) = (d : Int) := by omega
    have y4 : ¬ (d0 : Int) ≤ (d : Int) := by omega
    have y5 : ¬ (d0 : Int) < (d : Int) := by omega
    clear hd hdv y1
    go_quiet ((go_at_call 15; exact HQT.out _))
    clear y1'
    go_wp2_with fail
    have hO5 : Own 3 w.heap.size ((W4.drewN nq).setCell ⟨g3, q, none⟩ (.int .i64 ((l : Int) + (d : Int)))) (.slice (some ⟨g3, 0, none⟩) l0 cap3) (x0.set q ((l : Int) + (d : Int))) := by
      have h4 : (W4.drewN nq).ownsRow w.heap.size 3 1 (.slice (some ⟨g3, 0, none⟩) l0 cap3) l0 ((x0.set q (l : Int)).map (Value.int .i64)) := by
        have h := HO4.out
        unfold Own at h
        rw [List.length_set, ← HL0.out] at h
        exact h
      have s2 := (h4.stored q (.int .i64 ((l : Int) + (d : Int)))).1
      refine own_ro ?_ (by rw [List.length_set, ← HL0.out])
      rw [← List.map_set, List.set_set] at s2
      exact s2
    have bt5 : Below w.heap.size w ((W4.drewN nq).setCell ⟨g3, q, none⟩ (.int .i64 ((l : Int) + (d : Int)))) := (below_drawn bt3 nq).setCell (p := ⟨g3, q, none⟩) hg3 _
    have R_y := Lib.hid hO5.ro
    clear hO5 HO4
    refine (cut_any _ x0 a3 p _ (B_v0.out.below bt5) (by rw [← HL0.out]; omega) HP.out).mono ?_
    rintro e W6 ⟨ca, rfl, ia, sa, b6⟩
    replace R_y := Lib.hid (R_y.out.below b6)
    have bt6 : Below w.heap.size w W6 := bt5.trans (b6.mono bt5.size)
    have IA := Lib.hid ia
    clear b6 bt5 ia
    go_wp2_with fail
    refine (cut_any _ (x0.set q ((l : Int) + (d : Int))) a3 p _ R_y.out (by rw [List.length_set, ← HL0.out]; omega) HP.out).mono ?_
    rw [lds_set (l := l + d) (by omega)]
    rintro e W7 ⟨cb, rfl, ib, sb, b7⟩
    have bt7 : Below w.heap.size w W7 := bt6.trans (b7.mono bt6.size)
    obtain ⟨k1, k2⟩ := cut_more (d := d) (show (lds x0)[q]? = some l by unfold lds; rw [List.getElem?_map, HX.out, Option.map_some, HL.out]; rfl) IA.out ib
    have j1 : (ca : Int) ≤ (cb : Int) := by omega
    have j2 : (cb : Int) ≤ (ca : Int) + (d : Int) := by omega
    clear b7 bt6 ib sb
    go_wp2_with fail
    refine (works_any _).mono ?_
    rintro e W8 ⟨rfl, b8⟩
    go_wp2_with fail
    go_ret
    exact ⟨rfl, bt7.trans (b8.mono bt7.size)⟩

end Go.Proofs.Ytjnjeofoapaoeaa

/-
  What is proved here: the walk of the law FnKthMoved; no other condition.
-/
import Derived.Test.YtlcliogddepmiaaSml
import Derived.Test.YtlcliogddepmiaaWf
import Derived.Test.YtlcliogddepmiaaSame
namespace Go.Proofs.Ytlcliogddepmiaa
open Go.RowKit
set_option linter.unusedVariables false

set_option maxRecDepth 100000 in
set_option maxHeartbeats 2000000 in
theorem walk_FnKthMoved (v0 : Value) (x0 : List Int) (a1 : Int) (a2 : Int) (w : World) (h0 : Ro w v0 x0) (f0 : ∀ x ∈ x0, (Lit.int .i64 x).wf = true) (n0 : x0.length * 8 ≤ 140737488351232) (f1 : (Lit.int .i64 a1).wf = true) (f2 : (Lit.int .i64 a2).wf = true) :
    Calls Try.prog 12 #[v0, .int .i64 a1, .int .i64 a2] w fun e w' => e = .returned (.bool true) ∧ Below w.heap.size w w' := by
  have R_v0 := Lib.hid h0
  clear h0 f0
  clear f1
  clear f2
  obtain ⟨A0, c0, b0, off0, rfl, hnc0, hcm0, -, -⟩ := R_v0.out.shape
  obtain ⟨l0, hl0⟩ : ∃ n, n = x0.length := ⟨_, rfl⟩
  rw [← hl0] at R_v0 n0 hnc0 ⊢
  have HL0 := Lib.hid hl0
  clear hl0
  unfold maxLen at hcm0
  have B_v0 := R_v0
  obtain ⟨d, hd⟩ : ∃ d, d = a2.tmod 400000 := ⟨_, rfl⟩
  have hdb := tmod_bounds a2 400000 (by omega)
  rw [← hd] at hdb
  obtain ⟨d1, d2⟩ := hdb
  have HD := Lib.hid hd
  clear hd
  have hbw : Below w.heap.size w (w.alloc (.cells #[] 3)) := (Below.refl _ _).alloc (Nat.le_refl _) _
  go_enter Try.func12, Try.ntmps12
  go_wp2_with fail
  go_loopg [7, 13] l0 (fun kx s3 s12 wr => ∃ (j k g cap : Nat) (L : List Int), s3 = .slice (some ⟨g, 0, none⟩) k cap ∧ s12 = .int .i64 j ∧ j ≤ l0 ∧ l0 - j ≤ kx ∧ k ≤ j ∧
    Hid (L = (x0.take j).map (fun v => v + d)) ∧ Hid (∀ v ∈ x0.take j, -400000 ≤ v ∧ v ≤ 400000) ∧ Hid (Out 3 w.heap.size w.heap.size (w.alloc (.cells #[] 3)) wr g k cap L))
  case atStart => exact ⟨0, 0, w.heap.size, 0, [], rfl, rfl, Nat.zero_le _, by omega, Nat.le_refl _, rfl, (by show ∀ v ∈ x0.take 0, _; simp), Out.start (ownE (e := 3) (size := 1) w (Nat.le_refl _))⟩
  case round =>
    obtain ⟨j, k, g, cap, L, rfl, rfl, hj, hjk, hkj, HL, HB, HOU⟩ := hrel
    obtain ⟨hgB, hgl, hlc, hcap, hsz⟩ := HOU.out.lt
    unfold maxLen at hcap
    have bt0 : Below w.heap.size w wr := HOU.out.belowW hbw (Nat.le_refl _)
    by_cases hlt : j < l0
    · obtain ⟨x, hx⟩ := get_some HL0.out hlt
      obtain ⟨b1, o1, rfl, hc1, -⟩ := (B_v0.out.below bt0).at hx
      have HST := Lib.hid (map_take (f := fun v => v + d) hx)
      have HXJ := Lib.hid hx
      clear hx
      by_cases hlo : x < -400000
      · go_wp2_with fail
        go_ret
        exact ⟨rfl, bt0⟩
      by_cases hhi : 400000 < x
      · go_wp2_with fail
        go_ret
        exact ⟨rfl, bt0⟩
      have e1 : (a2.tmod 400000) = d := HD.out.symm
      go_wp2_with (at_builtin; refine wpList_app _ rfl (.tmp 23) (.tmp 28) rfl ints_ok w.heap.size g k cap (L.map (Value.int .i64)) (by rfl) (HOU.out.row.alloc _) _ 1 1 [.int .i64 (x + d)] (by rfl) (Src.one _ _ _) (by unfold maxLen; omega) (by omega) (by simp; omega) (k + 1) rfl _ rfl ?_; intro g5 cap5 w5 hown5 hgrow5 hat5)
      have HO5 := Lib.hid (HOU.out.app hown5 hgrow5 hat5)
      clear hown5 hgrow5 hat5
      go_wp2_with fail
      go_roundg (l0 - (j + 1))
      case measure => omega
      case rel =>
        refine ⟨j + 1, k + 1, g5, cap5, L ++ [x + d], rfl, by go_num, by omega, by omega, by omega, (by show L ++ [x + d] = _; rw [HST.out, ← HL.out]), ?_, HO5.out⟩
        show ∀ v ∈ x0.take (j + 1), -400000 ≤ v ∧ v ≤ 400000
        rw [List.take_add_one, HXJ.out]
        intro v hv
        simp only [Option.toList_some, List.mem_append, List.mem_singleton] at hv
        rcases hv with hv | rfl
        · exact HB.out v hv
        · omega
    · have hLf : L = x0.map fun v => v + d := by
        rw [HL.out, List.take_of_length_le (by rw [← HL0.out]; omega)]
      have HBA := Lib.hid (show ∀ v ∈ x0, -400000 ≤ v ∧ v ≤ 400000 by
        have h := HB.out
        rwa [List.take_of_length_le (by rw [← HL0.out]; omega)] at h)
      have R_y : Hid (Ro wr (.slice (some ⟨g, 0, none⟩) k cap) (x0.map fun v => v + d)) := by
        show Ro _ _ _
        rw [← hLf]
        exact HOU.out.2.1.ro
      replace R_v0 := Lib.hid (B_v0.out.below bt0)
      clear hLf HL HOU HB
      rcases Nat.eq_zero_or_pos l0 with h0 | h0
      · subst h0
        go_wp2_with fail
        refine (kth_any _ (x0.map fun v => v + d) a1 _ R_y.out (by rw [List.length_map, ← HL0.out]; omega)).mono ?_
        rw [List.length_map, ← HL0.out, if_pos rfl]
        rintro e W1 ⟨rfl, b1⟩
        have bt1 : Below w.heap.size w W1 := bt0.trans (b1.mono bt0.size)
        clear b1
        go_wp2_with fail
        refine (works_any _).mono ?_
        rintro e W2 ⟨rfl, b2⟩
        go_wp2_with fail
        go_ret
        exact ⟨rfl, bt1.trans (b2.mono bt1.size)⟩
      have hn0 : ¬ l0 = 0 := by omega
      have hn1 : ((l0 : Int) == 0) = false := by simp; omega
      obtain ⟨q, hq⟩ : ∃ q : Nat, (q : Int) = a1 % (l0 : Int) := ⟨(a1 % (l0 : Int)).toNat, by have := Int.emod_nonneg a1 (show (l0 : Int) ≠ 0 by omega); omega⟩
      have hqn : q < l0 := by have := Int.emod_lt_of_pos a1 (show (0 : Int) < (l0 : Int) by omega); omega
      have HQ := Lib.hid hq
      clear hq
      obtain ⟨y, hy⟩ : ∃ y, y = kthOf x0 q := ⟨_, rfl⟩
      have hyb := kth_bounds x0 q
      rw [← hy] at hyb
      obtain ⟨y1, y2⟩ := hyb
      have HM := Lib.hid (show kthOf (x0.map fun v => v + d) q = y + d by rw [hy]; exact kth_moved (by rw [← HL0.out]; exact hqn) HBA.out d1 d2)
      have HY := Lib.hid hy
      clear hy
      go_wp2_with fail
      refine (kth_any _ (x0.map fun v => v + d) a1 _ R_y.out (by rw [List.length_map, ← HL0.out]; omega)).mono ?_
      rw [List.length_map, ← HL0.out, if_neg hn0, ← HQ.out, show ((q : Int)).toNat = q from rfl, HM.out]
      rintro e W1 ⟨rfl, b1⟩
      replace R_v0 := Lib.hid (R_v0.out.below b1)
      have bt1 : Below w.heap.size w W1 := bt0.trans (b1.mono bt0.size)
      clear b1
      go_wp2_with fail
      refine (kth_any _ x0 a1 _ R_v0.out (by rw [← HL0.out]; omega)).mono ?_
      rw [← HL0.out, if_neg hn0, ← HQ.out, show ((q : Int)).toNat = q from rfl, ← HY.out]
      rintro e W2 ⟨rfl, b2⟩
      have bt2 : Below w.heap.size w W2 := bt1.trans (b2.mono bt1.size)
      clear b2
      have e1 : (a2.tmod 400000) = d := HD.out.symm
      go_wp2_with fail
      refine (works_any _).mono ?_
      rintro e W3 ⟨rfl, b3⟩
      go_wp2_with fail
      go_ret
      exact ⟨rfl, bt2.trans (b3.mono bt2.size)⟩

end Go.Proofs.Ytlcliogddepmiaa

/-
  What is proved here: the walk of the law FnKthOpposite; no other condition.
-/
import Derived.Test.YtlcliogddepmiaaSml
import Derived.Test.YtlcliogddepmiaaSpecSmall
import Derived.Test.YtlcliogddepmiaaWf
import Derived.Test.YtlcliogddepmiaaSame
namespace Go.Proofs.Ytlcliogddepmiaa
open Go.RowKit
set_option linter.unusedVariables false

set_option maxRecDepth 100000 in
set_option maxHeartbeats 2000000 in
theorem walk_FnKthOpposite (v0 : Value) (x0 : List Int) (a1 : Int) (w : World) (h0 : Ro w v0 x0) (f0 : ∀ x ∈ x0, (Lit.int .i64 x).wf = true) (n0 : x0.length * 8 ≤ 140737488351232) (f1 : (Lit.int .i64 a1).wf = true) :
    Calls Try.prog 13 #[v0, .int .i64 a1] w fun e w' => e = .returned (.bool true) ∧ Below w.heap.size w w' := by
  have R_v0 := Lib.hid h0
  clear h0 f0
  clear f1
  obtain ⟨A0, c0, b0, off0, rfl, hnc0, hcm0, -, -⟩ := R_v0.out.shape
  obtain ⟨l0, hl0⟩ : ∃ n, n = x0.length := ⟨_, rfl⟩
  rw [← hl0] at R_v0 n0 hnc0 ⊢
  have HL0 := Lib.hid hl0
  clear hl0
  unfold maxLen at hcm0
  have B_v0 := R_v0
  rcases Nat.eq_zero_or_pos l0 with h0 | h0
  · subst h0
    go_enter Try.func13, Try.ntmps13
    go_wp2_with fail
    refine (kth_any _ x0 a1 _ R_v0.out (by rw [← HL0.out]; omega)).mono ?_
    rw [if_pos HL0.out.symm]
    rintro e W1 ⟨rfl, b1⟩
    go_wp2_with fail
    refine (works_any _).mono ?_
    rintro e W2 ⟨rfl, b2⟩
    go_wp2_with fail
    go_ret
    exact ⟨rfl, b1.trans (b2.mono b1.size)⟩
  have hn0 : ¬ l0 = 0 := by omega
  have hn1 : ((l0 : Int) == 0) = false := by simp; omega
  obtain ⟨q, hq⟩ : ∃ q : Nat, (q : Int) = a1 % (l0 : Int) := ⟨(a1 % (l0 : Int)).toNat, by have := Int.emod_nonneg a1 (show (l0 : Int) ≠ 0 by omega); omega⟩
  have hqn : q < l0 := by have := Int.emod_lt_of_pos a1 (show (0 : Int) < (l0 : Int) by omega); omega
  have HQ := Lib.hid hq
  clear hq
  obtain ⟨y, hy⟩ : ∃ y, y = kthOf x0 q := ⟨_, rfl⟩
  have hyb := kth_bounds x0 q
  rw [← hy] at hyb
  obtain ⟨y1, y2⟩ := hyb
  have HO := Lib.hid (show kthOf (x0.map fun v => -sml v) (l0 - 1 - q) = -y by rw [hy, HL0.out]; exact kth_opposite (by rw [← HL0.out]; exact hqn))
  have HY := Lib.hid hy
  clear hy
  have hbw : Below w.heap.size w (w.alloc (.cells #[] 3)) := (Below.refl _ _).alloc (Nat.le_refl _) _
  go_enter Try.func13, Try.ntmps13
  go_wp2_with fail
  go_loopg [5, 21] l0 (fun kx s3 s12 wr => ∃ (j k g cap : Nat) (L : List Int), s3 = .slice (some ⟨g, 0, none⟩) k cap ∧ s12 = .int .i64 j ∧ j ≤ l0 ∧ l0 - j ≤ kx ∧ k ≤ j ∧
    Hid (L = (x0.take j).map (fun v => -sml v)) ∧ Hid (Out 3 w.heap.size w.heap.size (w.alloc (.cells #[] 3)) wr g k cap L))
  case atStart => exact ⟨0, 0, w.heap.size, 0, [], rfl, rfl, Nat.zero_le _, by omega, Nat.le_refl _, rfl, Out.start (ownE (e := 3) (size := 1) w (Nat.le_refl _))⟩
  case round =>
    obtain ⟨j, k, g, cap, L, rfl, rfl, hj, hjk, hkj, HL, HOU⟩ := hrel
    obtain ⟨hgB, hgl, hlc, hcap, hsz⟩ := HOU.out.lt
    unfold maxLen at hcap
    by_cases hlt : j < l0
    · obtain ⟨x, hx⟩ := get_some HL0.out hlt
      obtain ⟨b1, o1, rfl, hc1, -⟩ := (B_v0.out.below (HOU.out.belowW hbw (Nat.le_refl _))).at hx
      have HST := Lib.hid (map_take (f := fun v => -sml v) hx)
      have hsb := sml_bounds x
      obtain ⟨z, hz⟩ : ∃ z, z = sml x := ⟨_, rfl⟩
      rw [← hz] at hsb HST
      obtain ⟨q1, q2⟩ := hsb
      have HZ := Lib.hid hz
      clear hx hz
      go_wp2_with fail
      refine (specSmall_any x _).mono ?_
      rw [← HZ.out]
      rintro e w' ⟨rfl, rfl⟩
      go_wp2_with (at_builtin; refine wpList_app _ rfl (.tmp 25) (.tmp 29) rfl ints_ok w.heap.size g k cap (L.map (Value.int .i64)) (by rfl) (HOU.out.row.alloc _) _ 1 1 [.int .i64 (-z)] (by rfl) (Src.one _ _ _) (by unfold maxLen; omega) (by omega) (by simp; omega) (k + 1) rfl _ rfl ?_; intro g5 cap5 w5 hown5 hgrow5 hat5)
      have HO5 := Lib.hid (HOU.out.app hown5 hgrow5 hat5)
      clear hown5 hgrow5 hat5
      go_wp2_with fail
      go_roundg (l0 - (j + 1))
      case measure => omega
      case rel => exact ⟨j + 1, k + 1, g5, cap5, L ++ [-z], rfl, by go_num, by omega, by omega, by omega, (by show L ++ [-z] = _; rw [HST.out, ← HL.out]), HO5.out⟩
    · have bt0 : Below w.heap.size w wr := HOU.out.belowW hbw (Nat.le_refl _)
      have hLf : L = x0.map fun v => -sml v := by
        rw [HL.out, List.take_of_length_le (by rw [← HL0.out]; omega)]
      have R_y : Hid (Ro wr (.slice (some ⟨g, 0, none⟩) k cap) (x0.map fun v => -sml v)) := by
        show Ro _ _ _
        rw [← hLf]
        exact HOU.out.2.1.ro
      replace R_v0 := Lib.hid (B_v0.out.below bt0)
      clear hLf HL HOU
      go_wp2_with fail
      refine (specAt_any a1 (l0 : Int) _ (by omega) (by omega)).mono ?_
      rw [← HQ.out]
      rintro e w' ⟨rfl, rfl⟩
      go_wp2_with fail
      refine (kth_any _ (x0.map fun v => -sml v) ((l0 : Int) - 1 - (q : Int)) _ R_y.out (by rw [List.length_map, ← HL0.out]; omega)).mono ?_
      rw [List.length_map, ← HL0.out, if_neg hn0, show (((l0 : Int) - 1 - (q : Int)) % (l0 : Int)).toNat = l0 - 1 - q by rw [Int.emod_eq_of_lt (by omega) (by omega)]; omega, HO.out]
      rintro e W1 ⟨rfl, b1⟩
      replace R_v0 := Lib.hid (R_v0.out.below b1)
      have bt1 : Below w.heap.size w W1 := bt0.trans (b1.mono bt0.size)
      clear b1
      go_wp2_with fail
      refine (kth_any _ x0 (q : Int) _ R_v0.out (by rw [← HL0.out]; omega)).mono ?_
      rw [← HL0.out, if_neg hn0, show ((q : Int) % (l0 : Int)).toNat = q by rw [Int.emod_eq_of_lt (by omega) (by omega)]; rfl, ← HY.out]
      rintro e W2 ⟨rfl, b2⟩
      have bt2 : Below w.heap.size w W2 := bt1.trans (b2.mono bt1.size)
      clear b2
      go_wp2_with fail
      refine (works_any _).mono ?_
      rintro e W3 ⟨rfl, b3⟩
      go_wp2_with fail
      go_ret
      exact ⟨rfl, bt2.trans (b3.mono bt2.size)⟩

end Go.Proofs.Ytlcliogddepmiaa

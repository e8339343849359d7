/-
  What is proved here: the walk of the law FnMergeAgain, for lists of at most 2^20 elements; no other condition.
-/
import Derived.Test.YtpkdjdofbedncaaSpans
import Derived.Test.YtpkdjdofbedncaaSame
namespace Go.Proofs.Ytpkdjdofbedncaa
open Go.RowKit
set_option linter.unusedVariables false

set_option maxRecDepth 100000 in
set_option maxHeartbeats 4000000 in
theorem walk_FnMergeAgain (v0 : Value) (x0 : List (Int × Int)) (w : World) (h0 : Ros2 w v0 x0) (f0 : ∀ x ∈ x0, (Lit.int .i64 x.1).wf = true ∧ (Lit.int .i64 x.2).wf = true) (n0 : x0.length ≤ 1048576) :
    Calls Try.prog 6 #[v0] w fun e w' => e = .returned (.bool true) ∧ Below w.heap.size w w' := by
  have R_v0 := Lib.hid h0
  clear h0 f0
  obtain ⟨A0, c0, b0, off0, rfl, hnc0, hcm0, -, -⟩ := R_v0.out.shape
  obtain ⟨l0, hl0⟩ : ∃ n, n = x0.length := ⟨_, rfl⟩
  rw [← hl0] at R_v0 n0 hnc0 ⊢
  have HL0 := Lib.hid hl0
  clear hl0
  unfold maxLen at hcm0
  go_enter Try.func6, Try.ntmps6
  go_wp2_with fail
  refine (merge_any _ x0 _ R_v0.out (by rw [← HL0.out]; omega)).mono ?_
  rintro e W1 ⟨va, rfl, o1, b1⟩
  replace R_v0 := Lib.hid (R_v0.out.below b1)
  have bt1 : Below w.heap.size w W1 := b1
  clear b1
  have R_va := Lib.hid o1.ros2
  clear o1
  have hbw : Below W1.heap.size W1 (W1.alloc (.cells #[] 37)) := (Below.refl _ _).alloc (Nat.le_refl _) _
  go_wp2_with fail
  go_loopg [4, 5] l0 (fun kx s3 s4 wr => ∃ (j g cap : Nat) (z : Int) (L : List (Int × Int)), s3 = .slice (some ⟨g, 0, none⟩) j cap ∧ s4 = .int .i64 z ∧ j ≤ l0 ∧ l0 - j ≤ kx ∧ -1 ≤ z ∧ z < l0 ∧
    Hid (z = (l0 : Int) - 1 - j) ∧ Hid (L = x0.reverse.take j) ∧ Hid (OutK 2 enc2 37 W1.heap.size W1.heap.size (W1.alloc (.cells #[] 37)) wr g j cap L))
  case atStart => exact ⟨0, W1.heap.size, 0, (l0 : Int) - 1, [], rfl, rfl, Nat.zero_le _, by omega, by omega, by omega, (by show (l0 : Int) - 1 = (l0 : Int) - 1 - (0 : Nat); omega), rfl, OutK.start (ownE (e := 37) (size := 2) W1 (Nat.le_refl _))⟩
  case round =>
    obtain ⟨j, g, cap, z, L, rfl, rfl, hj, hjk, hz1, hz2, HZ, HL, HO⟩ := hrel
    obtain ⟨hgB, hgl, hlc, hcap, hsz⟩ := HO.out.lt
    unfold maxLen at hcap
    have hbW : Below W1.heap.size W1 wr := HO.out.belowW hbw (Nat.le_refl _)
    by_cases hlt : 0 ≤ z
    · obtain ⟨i, rfl⟩ : ∃ i : Nat, z = i := ⟨z.toNat, by omega⟩
      have hin : i < l0 := by omega
      have hjn : j < l0 := by have := HZ.out; omega
      obtain ⟨p, q, hx⟩ : ∃ p q, x0[i]? = some (p, q) := ⟨_, _, List.getElem?_eq_getElem (by rw [← HL0.out]; exact hin)⟩
      obtain ⟨b, off, rfl, hc0, hc1, hbl⟩ := (R_v0.out.below hbW).at hx
      have hrv : x0.reverse[j]? = some (p, q) := by
        rw [List.getElem?_reverse (by rw [← HL0.out]; exact hjn), ← HL0.out, ← hx]
        congr 1
        have := HZ.out
        omega
      have HST := Lib.hid (show x0.reverse.take (j + 1) = x0.reverse.take j ++ [(p, q)] by rw [List.take_add_one, hrv]; rfl)
      clear hx hrv
      go_wp2_with (at_builtin; refine wpList_app _ rfl (.tmp 16) (.tmp 21) rfl spans_ok W1.heap.size g j cap (cellsK enc2 L) (by rfl) (HO.out.row.alloc _) _ 1 1 [.int .i64 p, .int .i64 q] (by rfl) (Src.new_at _ #[.int .i64 p, .int .i64 q] _ 2 _ (by simp) rfl (by simp [Value.oneCell'])) (by unfold maxLen; omega) (by omega) (by simp; omega) (j + 1) rfl _ rfl ?_; intro g5 cap5 w5 hown5 hgrow5 hat5)
      have HO5 := Lib.hid (HO.out.app (x := (p, q)) hown5 hgrow5 hat5)
      clear hown5 hgrow5 hat5
      go_wp2_with fail
      go_roundg (l0 - (j + 1))
      case measure => omega
      case rel => exact ⟨j + 1, g5, cap5, (i : Int) - 1, L ++ [(p, q)], rfl, rfl, by omega, by omega, by omega, by omega, (by show (i : Int) - 1 = _; have := HZ.out; omega), (by show L ++ [(p, q)] = _; rw [HST.out, ← HL.out]), HO5.out⟩
    · have hz0 : z < 0 := by omega
      have hfin : L = x0.reverse := by
        rw [HL.out, List.take_of_length_le]
        rw [List.length_reverse, ← HL0.out]
        have := HZ.out
        omega
      have R_vt : Hid (Ros2 wr (.slice (some ⟨g, 0, none⟩) j cap) x0.reverse) := by
        have h := HO.out.2.1.ros2
        rw [hfin] at h
        exact h
      replace R_v0 := Lib.hid (R_v0.out.below hbW)
      replace R_va := Lib.hid (R_va.out.below hbW)
      have bt2 : Below w.heap.size w wr := bt1.trans (hbW.mono bt1.size)
      have HM := Lib.hid (merged_len x0)
      clear hfin HO HL HZ hbW bt1
      go_wp2_with fail
      refine (merge_any _ (merged x0) _ R_va.out (by have := HM.out; rw [← HL0.out] at this; omega)).mono ?_
      rintro e W3 ⟨vb, rfl, o3, b3⟩
      replace R_v0 := Lib.hid (R_v0.out.below b3)
      replace R_va := Lib.hid (R_va.out.below b3)
      replace R_vt := Lib.hid (R_vt.out.below b3)
      have bt3 : Below w.heap.size w W3 := bt2.trans (b3.mono bt2.size)
      clear bt2
      clear b3
      have R_vb := Lib.hid o3.ros2
      clear o3
      go_wp2_with fail
      refine (sameSpans_yes _ _ _ _ _ R_vb.out R_va.out (merge_again1 x0)).mono ?_
      rintro e W4 ⟨rfl, b4⟩
      replace R_v0 := Lib.hid (R_v0.out.below b4)
      replace R_va := Lib.hid (R_va.out.below b4)
      replace R_vt := Lib.hid (R_vt.out.below b4)
      replace R_vb := Lib.hid (R_vb.out.below b4)
      have bt4 : Below w.heap.size w W4 := bt3.trans (b4.mono bt3.size)
      clear bt3
      clear b4
      clear R_vb
      go_wp2_with fail
      refine (merge_any _ x0.reverse _ R_vt.out (by rw [List.length_reverse, ← HL0.out]; omega)).mono ?_
      rintro e W5 ⟨vc, rfl, o5, b5⟩
      replace R_v0 := Lib.hid (R_v0.out.below b5)
      replace R_va := Lib.hid (R_va.out.below b5)
      replace R_vt := Lib.hid (R_vt.out.below b5)
      have bt5 : Below w.heap.size w W5 := bt4.trans (b5.mono bt4.size)
      clear bt4
      clear b5
      have R_vc := Lib.hid o5.ros2
      clear o5
      go_wp2_with fail
      refine (sameSpans_yes _ _ _ _ _ R_vc.out R_va.out (merge_again2 x0)).mono ?_
      rintro e W6 ⟨rfl, b6⟩
      replace R_v0 := Lib.hid (R_v0.out.below b6)
      replace R_va := Lib.hid (R_va.out.below b6)
      replace R_vt := Lib.hid (R_vt.out.below b6)
      replace R_vc := Lib.hid (R_vc.out.below b6)
      have bt6 : Below w.heap.size w W6 := bt5.trans (b6.mono bt5.size)
      clear bt5
      clear b6
      clear R_vc
      clear R_vt
      go_wp2_with fail
      refine (joinedSpans_any _ _ x0 (merged x0) _ R_v0.out R_va.out (by have := HM.out; rw [← HL0.out] at *; omega)).mono ?_
      rintro e W7 ⟨vd, rfl, o7, b7⟩
      replace R_v0 := Lib.hid (R_v0.out.below b7)
      replace R_va := Lib.hid (R_va.out.below b7)
      have bt7 : Below w.heap.size w W7 := bt6.trans (b7.mono bt6.size)
      clear bt6
      clear b7
      have R_vd := Lib.hid o7.ros2
      clear o7
      go_wp2_with fail
      refine (merge_any _ (x0 ++ merged x0) _ R_vd.out (by rw [List.length_append]; have := HM.out; rw [← HL0.out] at *; omega)).mono ?_
      rintro e W8 ⟨ve, rfl, o8, b8⟩
      replace R_v0 := Lib.hid (R_v0.out.below b8)
      replace R_va := Lib.hid (R_va.out.below b8)
      replace R_vd := Lib.hid (R_vd.out.below b8)
      have bt8 : Below w.heap.size w W8 := bt7.trans (b8.mono bt7.size)
      clear bt7
      clear b8
      have R_ve := Lib.hid o8.ros2
      clear o8
      go_wp2_with fail
      refine (sameSpans_yes _ _ _ _ _ R_ve.out R_va.out (merge_again3 x0)).mono ?_
      rintro e W9 ⟨rfl, b9⟩
      replace R_v0 := Lib.hid (R_v0.out.below b9)
      replace R_va := Lib.hid (R_va.out.below b9)
      replace R_vd := Lib.hid (R_vd.out.below b9)
      replace R_ve := Lib.hid (R_ve.out.below b9)
      have bt9 : Below w.heap.size w W9 := bt8.trans (b9.mono bt8.size)
      clear bt8
      clear b9
      go_wp2_with fail
      refine (works_any _).mono ?_
      rintro e W10 ⟨rfl, b10⟩
      replace R_v0 := Lib.hid (R_v0.out.below b10)
      replace R_va := Lib.hid (R_va.out.below b10)
      replace R_vd := Lib.hid (R_vd.out.below b10)
      replace R_ve := Lib.hid (R_ve.out.below b10)
      have bt10 : Below w.heap.size w W10 := bt9.trans (b10.mono bt9.size)
      clear bt9
      clear b10
      go_wp2_with fail
      go_ret
      exact ⟨rfl, bt10⟩

end Go.Proofs.Ytpkdjdofbedncaa

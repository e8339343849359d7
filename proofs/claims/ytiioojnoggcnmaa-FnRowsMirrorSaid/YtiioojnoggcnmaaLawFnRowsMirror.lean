/-
  What is proved here: the walk of the law FnRowsMirror; no other condition.
-/
import Derived.Test.YtiioojnoggcnmaaRowsHelp
import Derived.Test.YtiioojnoggcnmaaRowsPlain
import Derived.Test.YtiioojnoggcnmaaHasKeys
import Derived.Test.YtiioojnoggcnmaaSame
namespace Go.Proofs.Ytiioojnoggcnmaa
open Go.RowKit
set_option linter.unusedVariables false

theorem Src.new_at3 (w : World) (cs : Array Value) (t : TypeId) (size b : Nat) (hb : b = w.heap.size) (hs : cs.size = 1 * size) (h1 : ∀ u ∈ cs.toList, u.oneCell' = true) : Src (w.alloc (.cells cs t)) size (some ⟨b, 0, none⟩) 1 cs.toList := by
  subst hb
  exact Src.new w cs t size hs h1

set_option maxRecDepth 100000 in
set_option maxHeartbeats 4000000 in
theorem walk_FnRowsMirror (v0 : Value) (x0 : List (Int × Int × Int)) (v1 : Value) (x1 : List Int) (w : World) (h0 : Ros3 w v0 x0) (f0 : ∀ x ∈ x0, (Lit.int .i64 x.1).wf = true ∧ (Lit.int .i64 x.2.1).wf = true ∧ (Lit.int .i64 x.2.2).wf = true) (n0 : x0.length * 24 ≤ 140737488351232) (h1 : Ro w v1 x1) (f1 : ∀ x ∈ x1, (Lit.int .i64 x).wf = true) (n1 : x1.length * 8 ≤ 140737488351232) :
    Calls Try.prog 10 #[v0, v1] w fun e w' => e = .returned (.bool true) ∧ Below w.heap.size w w' := by
  have R_v0 := Lib.hid h0
  clear h0 f0
  have R_v1 := Lib.hid h1
  clear h1 f1
  obtain ⟨A0, c0, b0, off0, rfl, hnc0, hcm0, -, -⟩ := R_v0.out.shape
  obtain ⟨l0, hl0⟩ : ∃ n, n = x0.length := ⟨_, rfl⟩
  rw [← hl0] at R_v0 n0 hnc0 ⊢
  have HL0 := Lib.hid hl0
  clear hl0
  unfold maxLen at hcm0
  obtain ⟨A1, c1, b1, off1, rfl, hnc1, hcm1, -, -⟩ := R_v1.out.shape
  obtain ⟨l1, hl1⟩ : ∃ n, n = x1.length := ⟨_, rfl⟩
  rw [← hl1] at R_v1 n1 hnc1 ⊢
  have HL1 := Lib.hid hl1
  clear hl1
  unfold maxLen at hcm1
  obtain ⟨f, hf⟩ : ∃ f, f = (hasK x1 0 && hasK x1 1 && hasK x1 2) := ⟨_, rfl⟩
  have HFF := Lib.hid hf
  clear hf
  go_enter Try.func10, Try.ntmps10
  go_wp2_with fail
  refine (hasKeys_any _ x1 _ R_v1.out (by rw [← HL1.out]; omega)).mono ?_
  rw [← HFF.out]
  rintro e W1 ⟨rfl, b1⟩
  replace R_v0 := Lib.hid (R_v0.out.below b1)
  replace R_v1 := Lib.hid (R_v1.out.below b1)
  have bt1 := b1
  clear b1
  cases f with
  | false =>
    go_wp2_with fail
    refine (sortRows_any _ _ x0 x1 _ R_v0.out R_v1.out (by rw [← HL0.out]; omega) (by rw [← HL1.out]; omega)).mono ?_
    rintro e W2 ⟨u1, rfl, o2, b2⟩
    have bt2 : Below w.heap.size w W2 := bt1.trans (b2.mono bt1.size)
    obtain ⟨Au, cu, gu, rfl, hncu, hcmu, -⟩ := o2.shape
    have hlen : (rsort x0 x1).length = l0 := by rw [rsort_len, ← HL0.out]
    rw [hlen] at hncu ⊢
    unfold maxLen at hcmu
    clear o2 b2 bt1 hlen
    go_wp2_with fail
    refine (works_any _).mono ?_
    rintro e W3 ⟨rfl, b3⟩
    go_wp2_with fail
    go_ret
    exact ⟨rfl, bt2.trans (b3.mono bt2.size)⟩
  | true =>
    have HALL : Hid (∀ k, k < 3 → ∃ z ∈ x1, (z % 3).toNat = k) := by
      have h := HFF.out.symm
      simp only [Bool.and_eq_true] at h
      intro k hk
      obtain h3 | h3 | h3 : k = 0 ∨ k = 1 ∨ k = 2 := by omega
      · subst h3; exact hasK_some h.1.1
      · subst h3; exact hasK_some h.1.2
      · subst h3; exact hasK_some h.2
    have hbw : Below W1.heap.size W1 (W1.alloc (.cells #[] 45)) := (Below.refl _ _).alloc (Nat.le_refl _) _
    go_wp2_with fail
    go_loopg [5, 6] l0 (fun kx s3 s4 wr => ∃ (j g cap : Nat) (z : Int) (L : List (Int × Int × Int)), s3 = .slice (some ⟨g, 0, none⟩) j cap ∧ s4 = .int .i64 z ∧ j ≤ l0 ∧ l0 - j ≤ kx ∧ -1 ≤ z ∧ z < l0 ∧
      Hid (z = (l0 : Int) - 1 - j) ∧ Hid (L = x0.reverse.take j) ∧ Hid (OutK 3 enc3 45 W1.heap.size W1.heap.size (W1.alloc (.cells #[] 45)) wr g j cap L))
    case atStart => exact ⟨0, W1.heap.size, 0, (l0 : Int) - 1, [], rfl, rfl, Nat.zero_le _, by omega, by omega, by omega, (by show (l0 : Int) - 1 = (l0 : Int) - 1 - (0 : Nat); omega), rfl, OutK.start (ownE (e := 45) (size := 3) W1 (Nat.le_refl _))⟩
    case round =>
      obtain ⟨j, g, cap, z, L, rfl, rfl, hj, hjk, hz1, hz2, HZ, HL, HO⟩ := hrel
      obtain ⟨hgB, hgl, hlc, hcap, hsz⟩ := HO.out.lt
      unfold maxLen at hcap
      have hbW : Below W1.heap.size W1 wr := HO.out.belowW hbw (Nat.le_refl _)
      by_cases hlt : 0 ≤ z
      · obtain ⟨i, rfl⟩ : ∃ i : Nat, z = i := ⟨z.toNat, by omega⟩
        have hin : i < l0 := by omega
        have hjn : j < l0 := by have := HZ.out; omega
        obtain ⟨p, q, r, hx⟩ : ∃ p q r, x0[i]? = some (p, q, r) := ⟨_, _, _, List.getElem?_eq_getElem (by rw [← HL0.out]; exact hin)⟩
        obtain ⟨b, off, rfl, hc0, hc1, hc2, hbl⟩ := (R_v0.out.below hbW).at hx
        have hrv : x0.reverse[j]? = some (p, q, r) := by
          rw [List.getElem?_reverse (by rw [← HL0.out]; exact hjn), ← HL0.out, ← hx]
          congr 1
          have := HZ.out
          omega
        have HST := Lib.hid (show x0.reverse.take (j + 1) = x0.reverse.take j ++ [(p, q, r)] by rw [List.take_add_one, hrv]; rfl)
        clear hx hrv
        go_wp2_with (at_builtin; refine wpList_app _ rfl (.tmp 28) (.tmp 33) rfl rows_ok W1.heap.size g j cap (cellsK enc3 L) (by rfl) (HO.out.row.alloc _) _ 1 1 [.int .i64 p, .int .i64 q, .int .i64 r] (by rfl) (Src.new_at3 _ #[.int .i64 p, .int .i64 q, .int .i64 r] _ 3 _ (by simp) rfl (by simp [Value.oneCell'])) (by unfold maxLen; omega) (by omega) (by simp; omega) (j + 1) rfl _ rfl ?_; intro g5 cap5 w5 hown5 hgrow5 hat5)
        have HO5 := Lib.hid (HO.out.app (x := (p, q, r)) hown5 hgrow5 hat5)
        clear hown5 hgrow5 hat5
        go_wp2_with fail
        go_roundg (l0 - (j + 1))
        case measure => omega
        case rel => exact ⟨j + 1, g5, cap5, (i : Int) - 1, L ++ [(p, q, r)], rfl, rfl, by omega, by omega, by omega, by omega, (by show (i : Int) - 1 = _; have := HZ.out; omega), (by show L ++ [(p, q, r)] = _; rw [HST.out, ← HL.out]), HO5.out⟩
      · have hz0 : z < 0 := by omega
        have hfin : L = x0.reverse := by
          rw [HL.out, List.take_of_length_le]
          rw [List.length_reverse, ← HL0.out]
          have := HZ.out
          omega
        have R_vt : Hid (Ros3 wr (.slice (some ⟨g, 0, none⟩) j cap) x0.reverse) := by
          have h := HO.out.2.1.ros3
          rw [hfin] at h
          exact h
        replace R_v0 := Lib.hid (R_v0.out.below hbW)
        replace R_v1 := Lib.hid (R_v1.out.below hbW)
        have bt2 : Below w.heap.size w wr := bt1.trans (hbW.mono bt1.size)
        clear hfin HO HL HZ hbW bt1
        go_wp2_with fail
        refine (sortRows_any _ _ x0 x1 _ R_v0.out R_v1.out (by rw [← HL0.out]; omega) (by rw [← HL1.out]; omega)).mono ?_
        rintro e W3 ⟨u1, rfl, o3, b3⟩
        replace R_v0 := Lib.hid (R_v0.out.below b3)
        replace R_v1 := Lib.hid (R_v1.out.below b3)
        replace R_vt := Lib.hid (R_vt.out.below b3)
        have bt3 : Below w.heap.size w W3 := bt2.trans (b3.mono bt2.size)
        clear bt2
        clear b3
        have R_u1 := Lib.hid o3.ros3
        clear o3
        obtain ⟨A_u1, c_u1, b_u1, off_u1, rfl, hnc_u1, hcm_u1, -, -⟩ := R_u1.out.shape
        obtain ⟨m, h_m⟩ : ∃ n, n = (rsort x0 x1).length := ⟨_, rfl⟩
        rw [← h_m] at R_u1 hnc_u1 ⊢
        have b_m : m ≤ 5864062014805 := by rw [h_m]; rw [rsort_len, ← HL0.out]; omega
        have H_m := Lib.hid h_m
        clear h_m
        unfold maxLen at hcm_u1
        obtain rfl : m = l0 := by have h := H_m.out; rw [rsort_len, ← HL0.out] at h; exact h
        clear R_u1
        go_wp2_with fail
        refine (sortRows_any _ _ x0.reverse x1 _ R_vt.out R_v1.out (by rw [List.length_reverse, ← HL0.out]; omega) (by rw [← HL1.out]; omega)).mono ?_
        rintro e W4 ⟨u2, rfl, o4, b4⟩
        replace R_v0 := Lib.hid (R_v0.out.below b4)
        replace R_v1 := Lib.hid (R_v1.out.below b4)
        replace R_vt := Lib.hid (R_vt.out.below b4)
        have bt4 : Below w.heap.size w W4 := bt3.trans (b4.mono bt3.size)
        clear bt3
        clear b4
        have R_u2 := Lib.hid o4.ros3
        clear o4
        go_wp2_with fail
        refine (sortRows_any _ _ x0 x1 _ R_v0.out R_v1.out (by rw [← HL0.out]; omega) (by rw [← HL1.out]; omega)).mono ?_
        rintro e W5 ⟨u3, rfl, o5, b5⟩
        replace R_v0 := Lib.hid (R_v0.out.below b5)
        replace R_v1 := Lib.hid (R_v1.out.below b5)
        replace R_vt := Lib.hid (R_vt.out.below b5)
        replace R_u2 := Lib.hid (R_u2.out.below b5)
        have bt5 : Below w.heap.size w W5 := bt4.trans (b5.mono bt4.size)
        clear bt4
        clear b5
        have R_u3 := Lib.hid o5.ros3
        clear o5
        go_wp2_with fail
        refine (sameRows_yes _ _ _ _ _ R_u2.out R_u3.out (rsort_mirror x0 HALL.out)).mono ?_
        rintro e W6 ⟨rfl, b6⟩
        replace R_v0 := Lib.hid (R_v0.out.below b6)
        replace R_v1 := Lib.hid (R_v1.out.below b6)
        replace R_vt := Lib.hid (R_vt.out.below b6)
        replace R_u2 := Lib.hid (R_u2.out.below b6)
        replace R_u3 := Lib.hid (R_u3.out.below b6)
        have bt6 : Below w.heap.size w W6 := bt5.trans (b6.mono bt5.size)
        clear bt5
        clear b6
        go_wp2_with fail
        refine (works_any _).mono ?_
        rintro e W7 ⟨rfl, b7⟩
        replace R_v0 := Lib.hid (R_v0.out.below b7)
        replace R_v1 := Lib.hid (R_v1.out.below b7)
        replace R_vt := Lib.hid (R_vt.out.below b7)
        replace R_u2 := Lib.hid (R_u2.out.below b7)
        replace R_u3 := Lib.hid (R_u3.out.below b7)
        have bt7 : Below w.heap.size w W7 := bt6.trans (b7.mono bt6.size)
        clear bt6
        clear b7
        go_wp2_with fail
        go_ret
        exact ⟨rfl, bt7⟩

end Go.Proofs.Ytiioojnoggcnmaa

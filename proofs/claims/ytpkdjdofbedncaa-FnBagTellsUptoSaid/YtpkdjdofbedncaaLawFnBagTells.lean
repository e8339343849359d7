/-
  What is proved here: the walk of the law FnBagTells, for lists of at most 2^20 elements; no other condition.
-/
import Derived.Test.YtpkdjdofbedncaaBag
import Derived.Test.YtpkdjdofbedncaaOrders
import Derived.Test.YtpkdjdofbedncaaBagLaws
import Derived.Test.YtpkdjdofbedncaaSame
namespace Go.Proofs.Ytpkdjdofbedncaa
open Go.RowKit
set_option linter.unusedVariables false

theorem tells_take (j : Nat) : tells (j + 1) = tells j ++ [(3, (j : Int))] := by simp [tells, List.range_succ]
theorem tells_len (n : Nat) : (tells n).length = n := by simp [tells]

set_option maxRecDepth 100000 in
set_option maxHeartbeats 1500000 in
theorem walk_FnBagTells (v0 : Value) (x0 : List Int) (w : World) (h0 : Ro w v0 x0) (f0 : ∀ x ∈ x0, (Lit.int .i64 x).wf = true) (n0 : x0.length ≤ 1048576) :
    Calls Try.prog 10 #[v0] w fun e w' => e = .returned (.bool true) ∧ Below w.heap.size w w' := by
  have R_v0 := Lib.hid h0
  clear h0 f0
  obtain ⟨A0, c0, b0, off0, rfl, hnc0, hcm0, -, -⟩ := R_v0.out.shape
  obtain ⟨l0, hl0⟩ : ∃ n, n = x0.length := ⟨_, rfl⟩
  rw [← hl0] at R_v0 n0 hnc0 ⊢
  have HL0 := Lib.hid hl0
  clear hl0
  unfold maxLen at hcm0
  have B_v0 := R_v0
  go_enter Try.func10, Try.ntmps10
  have hbw : Below w.heap.size w (w.alloc (.cells #[] 43)) := (Below.refl _ _).alloc (Nat.le_refl _) _
  go_wp2_with fail
  go_loopg [3, 14] l0 (fun kx s3 s14 wr => ∃ (j g cap : Nat) (L : List (Int × Int)), s3 = .slice (some ⟨g, 0, none⟩) j cap ∧ s14 = .int .i64 j ∧ j ≤ l0 ∧ l0 - j ≤ kx ∧
    Hid (L = tells j) ∧ Hid (OutK 2 enc2 43 w.heap.size w.heap.size (w.alloc (.cells #[] 43)) wr g j cap L))
  case atStart => exact ⟨0, w.heap.size, 0, [], rfl, rfl, Nat.zero_le _, by omega, rfl, OutK.start (ownE (e := 43) (size := 2) w (Nat.le_refl _))⟩
  case round =>
    obtain ⟨j, g, cap, L, rfl, rfl, hj, hjk, HL, HO⟩ := hrel
    obtain ⟨hgB, hgl, hlc, hcap, hsz⟩ := HO.out.lt
    unfold maxLen at hcap
    by_cases hlt : j < l0
    · go_wp2_with (at_builtin; refine wpList_app _ rfl (.tmp 17) (.tmp 20) rfl orders_ok w.heap.size g j cap (cellsK enc2 L) (by rfl) (HO.out.row.alloc _) _ 1 1 [.int .i64 3, .int .i64 (j : Int)] (by rfl) (Src.new _ #[.int .i64 3, .int .i64 (j : Int)] _ 2 rfl (by simp [Value.oneCell'])) (by unfold maxLen; omega) (by omega) (by simp; omega) (j + 1) rfl _ rfl ?_; intro g5 cap5 w5 hown5 hgrow5 hat5)
      have HO5 := Lib.hid (HO.out.app (x := (3, (j : Int))) hown5 hgrow5 hat5)
      clear hown5 hgrow5 hat5
      go_wp2_with fail
      go_roundg (l0 - (j + 1))
      case measure => omega
      case rel => exact ⟨j + 1, g5, cap5, L ++ [(3, (j : Int))], rfl, by go_num, by omega, by omega, (by show L ++ [(3, (j : Int))] = _; rw [HL.out, tells_take]), HO5.out⟩
    · obtain rfl : j = l0 := by omega
      have bt0 : Below w.heap.size w wr := HO.out.belowW hbw (Nat.le_refl _)
      replace R_v0 := Lib.hid (B_v0.out.below bt0)
      have hO := HO.out.2.1
      rw [HL.out] at hO
      have R_l := Lib.hid hO.ros2
      have hz0 := bt0.size
      clear hO HO
      go_wp2_with fail
      refine (bag_any _ _ x0 (tells j) _ R_v0.out R_l.out (by rw [tells_len, ← HL0.out]; omega)).mono ?_
      rw [show bagRun ([], asc x0) (tells j) = (asc x0, asc x0) by rw [run_tells _ _ (by rw [asc_len, ← HL0.out]; exact Nat.le_refl _), List.take_of_length_le (by rw [asc_len, ← HL0.out]; exact Nat.le_refl _)]]
      rintro e W1 ⟨t, bg, rfl, o1, p1, -, b1⟩
      replace R_v0 := Lib.hid (R_v0.out.below b1)
      replace R_l := Lib.hid (R_l.out.below b1)
      have bt1 : Below w.heap.size w W1 := bt0.trans (b1.mono bt0.size)
      clear bt0
      clear b1
      have R_t : Hid (Ro W1 t (asc x0)) := o1.ro
      have R_bg : Hid (Ro W1 bg (asc x0)) := p1.ro
      clear o1 p1
      obtain ⟨A_t, c_t, b_t, off_t, rfl, hnc_t, hcm_t, -, -⟩ := R_t.out.shape
      obtain ⟨m1, h_m1⟩ : ∃ n, n = (asc x0).length := ⟨_, rfl⟩
      rw [← h_m1] at R_t hnc_t ⊢
      have b_m1 : m1 ≤ 1048576 := by rw [h_m1]; rw [asc_len, ← HL0.out]; exact n0
      have H_m1 := Lib.hid h_m1
      clear h_m1
      unfold maxLen at hcm_t
      obtain rfl : m1 = j := by have h := H_m1.out; rw [asc_len, ← HL0.out] at h; exact h
      go_wp2_with fail
      refine (orders_any 2 _ (asc x0) _ R_t.out (by rw [asc_len, ← HL0.out]; omega)).mono ?_
      rintro e W2 ⟨u1, rfl, o2, b2⟩
      replace R_v0 := Lib.hid (R_v0.out.below b2)
      replace R_l := Lib.hid (R_l.out.below b2)
      replace R_t := Lib.hid (R_t.out.below b2)
      replace R_bg := Lib.hid (R_bg.out.below b2)
      have bt2 : Below w.heap.size w W2 := bt1.trans (b2.mono bt1.size)
      clear bt1
      clear b2
      have R_u1 := Lib.hid o2.ros2
      clear o2
      go_wp2_with fail
      refine (bag_any _ _ x0 _ _ R_v0.out R_u1.out (by rw [List.length_map, asc_len, ← HL0.out]; omega)).mono ?_
      rw [show bagRun ([], asc x0) ((asc x0).map fun v => ((2 : Int), v)) = ((asc x0).map (fun v => (lessN (asc x0) v : Int)), asc x0) from (run_asks (asc x0) [] (asc x0)).trans (by simp)]
      rintro e W3 ⟨ls, bh, rfl, o3, p3, -, b3⟩
      replace R_v0 := Lib.hid (R_v0.out.below b3)
      replace R_l := Lib.hid (R_l.out.below b3)
      replace R_t := Lib.hid (R_t.out.below b3)
      replace R_bg := Lib.hid (R_bg.out.below b3)
      replace R_u1 := Lib.hid (R_u1.out.below b3)
      have bt3 : Below w.heap.size w W3 := bt2.trans (b3.mono bt2.size)
      clear bt2
      clear b3
      have R_ls : Hid (Ro W3 ls ((asc x0).map fun v => (lessN (asc x0) v : Int))) := o3.ro
      have R_bh : Hid (Ro W3 bh (asc x0)) := p3.ro
      clear o3 p3
      obtain ⟨A_ls, c_ls, b_ls, off_ls, rfl, hnc_ls, hcm_ls, -, -⟩ := R_ls.out.shape
      obtain ⟨m2, h_m2⟩ : ∃ n, n = ((asc x0).map fun v => (lessN (asc x0) v : Int)).length := ⟨_, rfl⟩
      rw [← h_m2] at R_ls hnc_ls ⊢
      have b_m2 : m2 ≤ 1048576 := by rw [h_m2]; rw [List.length_map, asc_len, ← HL0.out]; exact n0
      have H_m2 := Lib.hid h_m2
      clear h_m2
      unfold maxLen at hcm_ls
      obtain rfl : m2 = m1 := by have h := H_m2.out; rw [List.length_map, asc_len, ← HL0.out] at h; exact h
      clear R_u1
      clear R_bh
      clear R_l
      go_wp2_with fail
      refine (same_yes _ _ _ _ _ R_t.out R_bg.out rfl).mono ?_
      rintro e W4 ⟨rfl, b4⟩
      replace R_v0 := Lib.hid (R_v0.out.below b4)
      replace R_t := Lib.hid (R_t.out.below b4)
      replace R_bg := Lib.hid (R_bg.out.below b4)
      replace R_ls := Lib.hid (R_ls.out.below b4)
      have bt4 : Below w.heap.size w W4 := bt3.trans (b4.mono bt3.size)
      clear bt3
      clear b4
      go_wp2_with fail
      refine (ascending_any _ x0 _ R_v0.out (by rw [← HL0.out]; omega)).mono ?_
      rintro e W5 ⟨u2, rfl, o5, b5⟩
      replace R_v0 := Lib.hid (R_v0.out.below b5)
      replace R_t := Lib.hid (R_t.out.below b5)
      replace R_bg := Lib.hid (R_bg.out.below b5)
      replace R_ls := Lib.hid (R_ls.out.below b5)
      have bt5 : Below w.heap.size w W5 := bt4.trans (b5.mono bt4.size)
      clear bt4
      clear b5
      have R_u2 := Lib.hid o5.ro
      clear o5
      go_wp2_with fail
      refine (same_yes _ _ _ _ _ R_bg.out R_u2.out rfl).mono ?_
      rintro e W6 ⟨rfl, b6⟩
      replace R_v0 := Lib.hid (R_v0.out.below b6)
      replace R_t := Lib.hid (R_t.out.below b6)
      replace R_bg := Lib.hid (R_bg.out.below b6)
      replace R_ls := Lib.hid (R_ls.out.below b6)
      replace R_u2 := Lib.hid (R_u2.out.below b6)
      have bt6 : Below w.heap.size w W6 := bt5.trans (b6.mono bt5.size)
      clear bt5
      clear b6
      clear R_u2
      clear R_bg
      clear H_m1 H_m2 b_m1 b_m2 hjk hlt
      go_wp2_with fail
      go_loopg [56] m2 (fun kx s56 wr => ∃ k : Nat, k ≤ m2 ∧ s56 = .int .i64 k ∧ m2 - k ≤ kx ∧ Below W6.heap.size W6 wr)
      case atStart => exact ⟨0, Nat.zero_le _, rfl, by omega, Below.refl _ _⟩
      case round =>
        obtain ⟨k, hk, rfl, hkk, hb⟩ := hrel
        by_cases hlt : k < m2
        · obtain ⟨x, hx⟩ : ∃ x, (asc x0)[k]? = some x := ⟨_, List.getElem?_eq_getElem (by rw [asc_len, ← HL0.out]; exact hlt)⟩
          obtain ⟨hp1, hp2, hp3⟩ := tells_place (asc_asc x0) hx
          obtain ⟨c, hc⟩ : ∃ c : Nat, c = lessN (asc x0) x := ⟨_, rfl⟩
          have hl : ((asc x0).map fun v => (lessN (asc x0) v : Int))[k]? = some (c : Int) := by rw [List.getElem?_map, hx, hc]; rfl
          rw [← hc] at hp1 hp2 hp3
          obtain ⟨b1, o1, rfl, hc1, -⟩ := (R_ls.out.below hb).at hl
          obtain ⟨b2, o2, rfl, hc2, -⟩ := (R_t.out.below hb).at hx
          obtain ⟨b3, o3, e3, hc3, -⟩ := (R_t.out.below hb).at hp2
          simp only [Option.some.injEq, Addr.mk.injEq, and_true] at e3
          obtain ⟨rfl, rfl⟩ := e3
          have z1 : (0 : Int) ≤ (k : Int) := by omega
          have z2 : (k : Int) < (m2 : Int) := by omega
          have z3 : (0 : Int) ≤ (c : Int) := by omega
          have z4 : (c : Int) < (m2 : Int) := by omega
          have z5 : decide (k < c) = false := decide_eq_false (by omega)
          have z6 : decide ((k : Int) < (c : Int)) = false := decide_eq_false (by omega)
          have z7 : decide ((c : Int) < 0) = false := decide_eq_false (by omega)
          have z8 : (x != x) = false := by simp
          have z9 : (x == x) = true := by simp
          clear hl hx hc hp2
          rcases Nat.eq_zero_or_pos c with h0 | h0
          · have HC0 := Lib.hid h0
            have y6 : decide (0 < c) = false := decide_eq_false (by omega)
            have y7 : decide ((0 : Int) < (c : Int)) = false := decide_eq_false (by omega)
            clear h0 hp3 R_v0 R_t R_ls B_v0 HL HL0 hbw hz0
            go_wp2_with fail
            go_quiet (fail)
            go_wp2_with fail
            go_roundg (m2 - (k + 1))
            case measure => omega
            case rel => exact ⟨k + 1, by omega, by go_num, by omega, below_drawn hb _⟩
          · obtain ⟨y, hy, hyx⟩ := hp3 h0
            obtain ⟨b4, o4, e4, hc4, -⟩ := (R_t.out.below hb).at hy
            simp only [Option.some.injEq, Addr.mk.injEq, and_true] at e4
            obtain ⟨rfl, rfl⟩ := e4
            have y1 : IntKind.i64.wrap ((c : Int) - 1) = (c : Int) - 1 := IntWalk.i64_in _ (by omega)
            have y2 : (0 : Int) ≤ (c : Int) - 1 := by omega
            have y2' : (1 : Int) ≤ (c : Int) := by omega
            have y3 : (c : Int) - 1 < (m2 : Int) := by omega
            have y4 : ((c : Int) - 1).toNat = c - 1 := by omega
            have y5 : (y == x) = false := by simp; omega
            have y6 : (0 : Int) < (c : Int) := by omega
            have y7 : decide (0 < c) = true := decide_eq_true (by omega)
            clear hy hp3 R_v0 R_t R_ls B_v0 HL HL0 hbw hz0
            go_wp2_with fail
            go_quiet (fail)
            clear y1 y4
            go_wp2_with fail
            go_roundg (m2 - (k + 1))
            case measure => omega
            case rel => exact ⟨k + 1, by omega, by go_num, by omega, below_drawn hb _⟩
        · replace bt6 : Below w.heap.size w wr := bt6.trans (hb.mono bt6.size)
          clear R_v0 R_t R_ls hb
          go_wp2_with fail
          refine (works_any _).mono ?_
          rintro e W9 ⟨rfl, b9⟩
          go_wp2_with fail
          go_ret
          exact ⟨rfl, bt6.trans (b9.mono bt6.size)⟩

end Go.Proofs.Ytpkdjdofbedncaa

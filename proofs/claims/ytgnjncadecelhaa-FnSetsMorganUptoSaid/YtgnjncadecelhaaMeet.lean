/-
  What is proved here: contracts of Meet and Minus of the thin package; conditions: at most 2^43 elements in each list.
-/
import Derived.Test.YtgnjncadecelhaaFind
import Derived.Test.YtgnjncadecelhaaSetPlain
import Derived.Test.YtgnjncadecelhaaUnite
namespace Go.Proofs.Ytgnjncadecelhaa
open Go.RowKit
set_option linter.unusedVariables false

set_option maxRecDepth 100000 in
set_option maxHeartbeats 1000000 in
theorem meet_any (va vb : Value) (xs ys : List Int) (w : World) (ha : Ro w va xs) (hb : Ro w vb ys) (hn : xs.length ≤ 8796093022208) (hm : ys.length ≤ 8796093022208) :
    Calls Try.prog 18 #[va, vb] w (Made 3 (meet xs ys) w) := by
  have HRA := Lib.hid ha
  have HRB := Lib.hid hb
  clear ha hb
  go_enter Try.func18, Try.ntmps18
  go_wp2_with fail
  refine (ascending_any vb ys _ (HRB.out.below ((Below.refl _ _).alloc (Nat.le_refl _) _)) (by omega)).mono ?_
  rintro e w2 ⟨v2, rfl, ho2, hb2⟩
  have hs2 : w.heap.size + 1 ≤ w2.heap.size := by have := hb2.size; simpa using this
  have hbw2 : Below w.heap.size w w2 := ((Below.refl _ _).alloc (Nat.le_refl _) _).trans (hb2.mono (by simp))
  have HOE := Lib.hid ((ownE (e := 3) (size := 1) w (Nat.le_refl _)).kept (below_grownBy hb2 none) (.inr (by simp [Value.ownBlock])))
  have HO2 := Lib.hid (ho2.mono (show w.heap.size + 1 ≤ _ by simp))
  clear ho2 hb2
  go_wp2_with fail
  refine (unite_any va (.slice none 0 0) xs [] _ (HRA.out.below hbw2) (ro_nil _) (by simp; omega)).mono ?_
  rintro e w4 ⟨v4, rfl, ho4, hb4⟩
  have hs4 : w2.heap.size ≤ w4.heap.size := hb4.size
  have hbw : Below w.heap.size w w4 := hbw2.trans (hb4.mono hbw2.size)
  have HO24 := Lib.hid (HO2.out.below hb4)
  have HOE4 := Lib.hid (Own.below (xs := []) HOE.out hb4)
  have ho4' := ho4.mono (show w.heap.size + 1 ≤ _ from hs2)
  clear ho4 HO2 HOE
  obtain ⟨l, hl⟩ : ∃ l, l = uni (xs ++ []) := ⟨_, rfl⟩
  rw [← hl] at ho4'
  have hln : l.length ≤ 8796093022208 := by have := uni_len (xs ++ []); rw [← hl, List.append_nil] at this; omega
  have HL0 := Lib.hid (show meet xs ys = l.filter (fun v => decide (v ∈ ys)) by unfold meet; rw [hl, List.append_nil])
  clear hl
  obtain ⟨A4, c4, g4, rfl, hc4, hm4, hA4⟩ := ho4'.shape
  obtain ⟨N, hN⟩ : ∃ N, N = l.length := ⟨_, rfl⟩
  rw [← hN] at ho4' hc4 hA4 hln ⊢
  have HO4 := Lib.hid ho4'
  have HLN := Lib.hid hN
  have HA4 := Lib.hid hA4
  clear ho4' hN hA4
  unfold maxLen at hm4
  go_wp2_with fail
  go_loopg [5, 15] N (fun kx s5 s15 wr => ∃ (j k g cap : Nat) (L : List Int), s5 = .slice (some ⟨g, 0, none⟩) k cap ∧ s15 = .int .i64 j ∧ j ≤ N ∧ N - j ≤ kx ∧ k ≤ j ∧
    Hid (L = (l.take j).filter (fun v => decide (v ∈ ys))) ∧ Hid (Out 3 w.heap.size w.heap.size w4 wr g k cap L))
  case atStart => exact ⟨0, 0, w.heap.size, 0, [], rfl, rfl, Nat.zero_le _, by omega, Nat.le_refl _, rfl, Out.start HOE4.out⟩
  case round =>
    obtain ⟨j, k, g, cap, L, rfl, rfl, hj, hjk, hkj, HL, HO⟩ := hrel
    obtain ⟨hgB, hgl, hlc, hcap, hsz⟩ := HO.out.lt
    unfold maxLen at hcap
    by_cases hlt : j < N
    · obtain ⟨x, hx⟩ : ∃ x, l[j]? = some x := ⟨l[j]'(by rw [← HLN.out]; exact hlt), List.getElem?_eq_getElem _⟩
      obtain rfl := HA4.out (by omega)
      have hc := (own_cell (HO.out.own HO4.out (Nat.lt_succ_self _)) hx).1
      have HST := Lib.hid (filter_take (p := (fun v => decide (v ∈ ys))) hx)
      clear hx
      go_wp2_with fail
      refine (found_any v2 (asc ys) x _ (HO.out.own HO24.out (Nat.lt_succ_self _)).ro (asc_asc _) (by rw [asc_len]; omega)).mono ?_
      rw [show decide (x ∈ asc ys) = decide (x ∈ ys) by rw [Bool.eq_iff_iff]; simp [(asc_perm ys).mem_iff]]
      by_cases hm : x ∈ ys
      all_goals
        rintro e w' ⟨rfl, hbx⟩
        have HOX := Lib.hid (HO.out.below hbx)
        have hbs : wr.heap.size ≤ w'.heap.size := hbx.size
        clear HO hbx
      · have HM := Lib.hid hm
        have hd : decide (x ∈ ys) = true := by simpa using hm
        clear hm
        go_wp2_with (at_builtin; refine wpList_app _ rfl (.tmp 22) (.tmp 24) rfl ints_ok w.heap.size g k cap (L.map (Value.int .i64)) (by rfl) (HOX.out.row.alloc _) _ 1 1 [.int .i64 x] (by rfl) (Src.one _ _ _) (by unfold maxLen; omega) (by omega) (by simp; omega) (k + 1) rfl _ rfl ?_; intro g5 cap5 w5 hown5 hgrow5 hat5)
        have HO5 := Lib.hid (HOX.out.app hown5 hgrow5 hat5)
        clear hown5 hgrow5 hat5
        go_wp2_with fail
        go_roundg (N - (j + 1))
        case measure => omega
        case rel => exact ⟨j + 1, k + 1, g5, cap5, L ++ [x], rfl, by go_num, by omega, by omega, by omega, (by show L ++ [x] = _; rw [HST.out, ← HL.out, if_pos (by simpa using HM.out)]), HO5.out⟩
      · have HM := Lib.hid hm
        have hd : decide (x ∈ ys) = false := by simpa using hm
        clear hm
        go_wp2_with fail
        go_roundg (N - (j + 1))
        case measure => omega
        case rel => exact ⟨j + 1, k, g, cap, L, rfl, by go_num, by omega, by omega, by omega, (by show L = _; rw [HST.out, ← HL.out, if_neg (by simpa using HM.out), List.append_nil]), HOX.out⟩
    · obtain rfl : j = N := by omega
      have hfin : L = meet xs ys := by
        rw [HL0.out, HL.out, List.take_of_length_le (by rw [← HLN.out]; exact Nat.le_refl _)]
      have HF := Lib.hid hfin
      clear hfin
      go_wp2_with fail
      go_ret
      exact HO.out.made hbw (Nat.le_refl _) HF.out

set_option maxRecDepth 100000 in
set_option maxHeartbeats 1000000 in
theorem minus_any (va vb : Value) (xs ys : List Int) (w : World) (ha : Ro w va xs) (hb : Ro w vb ys) (hn : xs.length ≤ 8796093022208) (hm : ys.length ≤ 8796093022208) :
    Calls Try.prog 16 #[va, vb] w (Made 3 (minus xs ys) w) := by
  have HRA := Lib.hid ha
  have HRB := Lib.hid hb
  clear ha hb
  go_enter Try.func16, Try.ntmps16
  go_wp2_with fail
  refine (ascending_any vb ys _ (HRB.out.below ((Below.refl _ _).alloc (Nat.le_refl _) _)) (by omega)).mono ?_
  rintro e w2 ⟨v2, rfl, ho2, hb2⟩
  have hs2 : w.heap.size + 1 ≤ w2.heap.size := by have := hb2.size; simpa using this
  have hbw2 : Below w.heap.size w w2 := ((Below.refl _ _).alloc (Nat.le_refl _) _).trans (hb2.mono (by simp))
  have HOE := Lib.hid ((ownE (e := 3) (size := 1) w (Nat.le_refl _)).kept (below_grownBy hb2 none) (.inr (by simp [Value.ownBlock])))
  have HO2 := Lib.hid (ho2.mono (show w.heap.size + 1 ≤ _ by simp))
  clear ho2 hb2
  go_wp2_with fail
  refine (unite_any va (.slice none 0 0) xs [] _ (HRA.out.below hbw2) (ro_nil _) (by simp; omega)).mono ?_
  rintro e w4 ⟨v4, rfl, ho4, hb4⟩
  have hs4 : w2.heap.size ≤ w4.heap.size := hb4.size
  have hbw : Below w.heap.size w w4 := hbw2.trans (hb4.mono hbw2.size)
  have HO24 := Lib.hid (HO2.out.below hb4)
  have HOE4 := Lib.hid (Own.below (xs := []) HOE.out hb4)
  have ho4' := ho4.mono (show w.heap.size + 1 ≤ _ from hs2)
  clear ho4 HO2 HOE
  obtain ⟨l, hl⟩ : ∃ l, l = uni (xs ++ []) := ⟨_, rfl⟩
  rw [← hl] at ho4'
  have hln : l.length ≤ 8796093022208 := by have := uni_len (xs ++ []); rw [← hl, List.append_nil] at this; omega
  have HL0 := Lib.hid (show minus xs ys = l.filter (fun v => !decide (v ∈ ys)) by unfold minus; rw [hl, List.append_nil])
  clear hl
  obtain ⟨A4, c4, g4, rfl, hc4, hm4, hA4⟩ := ho4'.shape
  obtain ⟨N, hN⟩ : ∃ N, N = l.length := ⟨_, rfl⟩
  rw [← hN] at ho4' hc4 hA4 hln ⊢
  have HO4 := Lib.hid ho4'
  have HLN := Lib.hid hN
  have HA4 := Lib.hid hA4
  clear ho4' hN hA4
  unfold maxLen at hm4
  go_wp2_with fail
  go_loopg [5, 15] N (fun kx s5 s15 wr => ∃ (j k g cap : Nat) (L : List Int), s5 = .slice (some ⟨g, 0, none⟩) k cap ∧ s15 = .int .i64 j ∧ j ≤ N ∧ N - j ≤ kx ∧ k ≤ j ∧
    Hid (L = (l.take j).filter (fun v => !decide (v ∈ ys))) ∧ Hid (Out 3 w.heap.size w.heap.size w4 wr g k cap L))
  case atStart => exact ⟨0, 0, w.heap.size, 0, [], rfl, rfl, Nat.zero_le _, by omega, Nat.le_refl _, rfl, Out.start HOE4.out⟩
  case round =>
    obtain ⟨j, k, g, cap, L, rfl, rfl, hj, hjk, hkj, HL, HO⟩ := hrel
    obtain ⟨hgB, hgl, hlc, hcap, hsz⟩ := HO.out.lt
    unfold maxLen at hcap
    by_cases hlt : j < N
    · obtain ⟨x, hx⟩ : ∃ x, l[j]? = some x := ⟨l[j]'(by rw [← HLN.out]; exact hlt), List.getElem?_eq_getElem _⟩
      obtain rfl := HA4.out (by omega)
      have hc := (own_cell (HO.out.own HO4.out (Nat.lt_succ_self _)) hx).1
      have HST := Lib.hid (filter_take (p := (fun v => !decide (v ∈ ys))) hx)
      clear hx
      go_wp2_with fail
      refine (found_any v2 (asc ys) x _ (HO.out.own HO24.out (Nat.lt_succ_self _)).ro (asc_asc _) (by rw [asc_len]; omega)).mono ?_
      rw [show decide (x ∈ asc ys) = decide (x ∈ ys) by rw [Bool.eq_iff_iff]; simp [(asc_perm ys).mem_iff]]
      by_cases hm : x ∈ ys
      all_goals
        rintro e w' ⟨rfl, hbx⟩
        have HOX := Lib.hid (HO.out.below hbx)
        have hbs : wr.heap.size ≤ w'.heap.size := hbx.size
        clear HO hbx
      · have HM := Lib.hid hm
        have hd : decide (x ∈ ys) = true := by simpa using hm
        clear hm
        go_wp2_with fail
        go_roundg (N - (j + 1))
        case measure => omega
        case rel => exact ⟨j + 1, k, g, cap, L, rfl, by go_num, by omega, by omega, by omega, (by show L = _; rw [HST.out, ← HL.out, if_neg (by simpa using HM.out), List.append_nil]), HOX.out⟩
      · have HM := Lib.hid hm
        have hd : decide (x ∈ ys) = false := by simpa using hm
        clear hm
        go_wp2_with (at_builtin; refine wpList_app _ rfl (.tmp 23) (.tmp 25) rfl ints_ok w.heap.size g k cap (L.map (Value.int .i64)) (by rfl) (HOX.out.row.alloc _) _ 1 1 [.int .i64 x] (by rfl) (Src.one _ _ _) (by unfold maxLen; omega) (by omega) (by simp; omega) (k + 1) rfl _ rfl ?_; intro g5 cap5 w5 hown5 hgrow5 hat5)
        have HO5 := Lib.hid (HOX.out.app hown5 hgrow5 hat5)
        clear hown5 hgrow5 hat5
        go_wp2_with fail
        go_roundg (N - (j + 1))
        case measure => omega
        case rel => exact ⟨j + 1, k + 1, g5, cap5, L ++ [x], rfl, by go_num, by omega, by omega, by omega, (by show L ++ [x] = _; rw [HST.out, ← HL.out, if_pos (by simpa using HM.out)]), HO5.out⟩
    · obtain rfl : j = N := by omega
      have hfin : L = minus xs ys := by
        rw [HL0.out, HL.out, List.take_of_length_le (by rw [← HLN.out]; exact Nat.le_refl _)]
      have HF := Lib.hid hfin
      clear hfin
      go_wp2_with fail
      go_ret
      exact HO.out.made hbw (Nat.le_refl _) HF.out

end Go.Proofs.Ytgnjncadecelhaa

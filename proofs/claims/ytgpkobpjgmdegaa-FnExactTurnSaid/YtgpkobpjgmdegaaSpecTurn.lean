/-
  What is proved here: the contract of the reference's Turn; condition: at most 2^43 elements.
-/
import Derived.Test.YtgpkobpjgmdegaaOut
import Derived.Test.YtgpkobpjgmdegaaSetPlain
import Derived.Test.YtgpkobpjgmdegaaSpecUnite
namespace Go.Proofs.Ytgpkobpjgmdegaa
open Go.RowKit
set_option linter.unusedVariables false

theorem turn_get {l : List Int} {q j : Nat} (hq : q < l.length) (hj : j < l.length) : (l.drop q ++ l.take q)[j]? = l[(j + q) % l.length]? := by
  by_cases h : j < l.length - q
  · rw [List.getElem?_append_left (by simp; exact h), List.getElem?_drop, Nat.mod_eq_of_lt (by omega), Nat.add_comm]
  · rw [List.getElem?_append_right (by simp; omega), List.length_drop, List.getElem?_take, if_pos (by omega)]
    have : (j + q) % l.length = j + q - l.length := by
      rw [Nat.mod_eq_sub_mod (by omega), Nat.mod_eq_of_lt (by omega)]
    rw [this]
    congr 1
    omega
theorem take_snoc {l : List Int} {j : Nat} {x : Int} (h : l[j]? = some x) : l.take (j + 1) = l.take j ++ [x] := by
  rw [List.take_add_one, h]
  rfl

set_option maxRecDepth 100000 in
set_option maxHeartbeats 1000000 in
theorem specTurn_any (va : Value) (xs : List Int) (k : Int) (w : World) (ha : Ro w va xs) (hn : xs.length ≤ 8796093022208) :
    Calls Try.prog 23 #[va, .int .i64 k] w (Made 3 (turn xs k) w) := by
  have HRA := Lib.hid ha
  clear ha
  go_enter Try.func23, Try.ntmps23
  go_wp2_with fail
  refine (specUnite_any _ (.slice none 0 0) xs [] _ HRA.out (ro_nil _) (by simp; exact hn)).mono ?_
  rintro e w3 ⟨v4, rfl, ho4, hb3⟩
  rw [List.append_nil] at ho4
  have hul : (uni xs).length ≤ 8796093022208 := Nat.le_trans (uni_len xs) hn
  have hs3 := hb3.size
  obtain ⟨A4, c4, g4, rfl, hc4, hm4, hA4⟩ := ho4.shape
  obtain ⟨l, hl⟩ : ∃ l, l = uni xs := ⟨_, rfl⟩
  rw [← hl] at ho4 hc4 hA4 hul ⊢
  obtain ⟨N, hN⟩ : ∃ N, N = l.length := ⟨_, rfl⟩
  rw [← hN] at ho4 hc4 hA4 hul ⊢
  have HLT := Lib.hid (World.ownsRow.lt ho4)
  have HO4 := Lib.hid (Own.below ho4 ((Below.refl _ _).alloc (Nat.le_refl _) (.cells #[] 3)))
  have HLN := Lib.hid hN
  have HT := Lib.hid (show turn xs k = l.drop (k % (N : Int)).toNat ++ l.take (k % (N : Int)).toNat by unfold turn; rw [hN, hl])
  have HA4 := Lib.hid hA4
  unfold maxLen at hm4
  have hbw : Below w.heap.size w (w3.alloc (.cells #[] 3)) := hb3.alloc hs3 _
  clear ho4 hA4 hN hl
  go_wp2_with fail
  go_loopg [6, 13] N (fun kx s3 s12 wr => ∃ (j k' g cap : Nat) (L : List Int), s3 = .slice (some ⟨g, 0, none⟩) k' cap ∧ s12 = .int .i64 j ∧ j ≤ N ∧ N - j ≤ kx ∧ k' ≤ j ∧
    Hid (L = (turn xs k).take j) ∧ Hid (Out 3 w.heap.size w3.heap.size (w3.alloc (.cells #[] 3)) wr g k' cap L))
  case atStart => exact ⟨0, 0, w3.heap.size, 0, [], rfl, rfl, Nat.zero_le _, by omega, Nat.le_refl _, rfl, Out.start (ownE (e := 3) (size := 1) w3 hs3)⟩
  case round =>
    obtain ⟨j, k', g, cap, L, rfl, rfl, hj, hjk, hkj, HL, HO⟩ := hrel
    obtain ⟨hgB, hgl, hlc, hcap, hsz⟩ := HO.out.lt
    unfold maxLen at hcap
    by_cases hlt : j < N
    · obtain ⟨q, hq⟩ : ∃ q : Nat, (q : Int) = k % (N : Int) := ⟨(k % (N : Int)).toNat, by have := Int.emod_nonneg k (show (N : Int) ≠ 0 by omega); omega⟩
      have hqN : q < N := by have := Int.emod_lt_of_pos k (show (0 : Int) < (N : Int) by omega); omega
      obtain ⟨x, hx⟩ : ∃ x, l[(j + q) % N]? = some x := ⟨l[(j + q) % N]'(by rw [← HLN.out]; exact Nat.mod_lt _ (by omega)), List.getElem?_eq_getElem _⟩
      have HQ := Lib.hid hq
      have hts : (turn xs k)[j]? = some x := by
        rw [HT.out, ← hq, show ((q : Int)).toNat = q from rfl, turn_get (by rw [← HLN.out]; exact hqN) (by rw [← HLN.out]; exact hlt), ← HLN.out]; exact hx
      have HST := Lib.hid (take_snoc hts)
      obtain rfl := HA4.out (by omega)
      have hlt4 := HLT.out g4 rfl
      have hown4 : Own 3 w.heap.size wr (.slice (some ⟨g4, 0, none⟩) N c4) l := World.ownsRow.kept HO4.out HO.out.2.2.2 (.inr (by simp [Value.ownBlock]; omega))
      obtain ⟨m, hm⟩ : ∃ m : Nat, m = (j + q) % N := ⟨_, rfl⟩
      rw [← hm] at hx
      have hmN : m < N := by rw [hm]; exact Nat.mod_lt _ (by omega)
      have hc := (own_cell hown4 hx).1
      have hmi : ((j : Int) + (q : Int)) % (N : Int) = (m : Int) := by rw [hm]; simp
      have hmt : ((j : Int) + (q : Int)).tmod (N : Int) = (m : Int) := by rw [Int.tmod_eq_emod_of_nonneg (by omega)]; exact hmi
      clear hx hts hq hown4 hm
      go_wp2_with fail
      refine (specAt_any k (N : Int) _ (by omega) (by omega)).mono ?_
      rw [← HQ.out]
      rintro e w' ⟨rfl, rfl⟩
      have z0 : (0 : Int) ≤ (m : Int) := by omega
      have z1 : (m : Int) < (N : Int) := by omega
      go_wp2_with (at_builtin; refine wpList_app _ rfl (.tmp 16) (.tmp 29) rfl ints_ok w.heap.size g k' cap (L.map (Value.int .i64)) (by rfl) (HO.out.row.alloc _) _ 1 1 [.int .i64 x] (by rfl) (Src.one _ _ _) (by unfold maxLen; omega) (by omega) (by simp; omega) (k' + 1) rfl _ rfl ?_; intro g5 cap5 w5 hown5 hgrow5 hat5)
      have HO5 := Lib.hid (HO.out.app hown5 hgrow5 hat5)
      clear hown5 hgrow5 hat5 hmi hmt
      go_wp2_with fail
      go_roundg (N - (j + 1))
      case measure => omega
      case rel => exact ⟨j + 1, k' + 1, g5, cap5, L ++ [x], rfl, by go_num, by omega, by omega, by omega, (by show L ++ [x] = _; rw [HST.out, ← HL.out]), HO5.out⟩
    · obtain rfl : j = N := by omega
      have hfin : L = turn xs k := by
        rw [HL.out, List.take_of_length_le]
        rw [HT.out, List.length_append, List.length_drop, List.length_take, ← HLN.out]
        omega
      have HF := Lib.hid hfin
      clear hfin
      go_wp2_with fail
      go_ret
      exact HO.out.made hbw hs3 HF.out

end Go.Proofs.Ytgpkobpjgmdegaa

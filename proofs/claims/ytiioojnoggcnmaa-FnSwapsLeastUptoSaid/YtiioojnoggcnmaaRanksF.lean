/-
  What is proved here: the contract of Ranks of the thin package; condition: at most 2^44 elements.
-/
import Derived.Test.YtiioojnoggcnmaaSInts
import Derived.Test.YtiioojnoggcnmaaSetPlain
import Derived.Test.YtiioojnoggcnmaaUnite
namespace Go.Proofs.Ytiioojnoggcnmaa
open Go.RowKit
set_option linter.unusedVariables false

set_option maxRecDepth 100000 in
set_option maxHeartbeats 1000000 in
theorem ranks_any (va : Value) (xs : List Int) (w : World) (ha : Ro w va xs) (hn : xs.length ≤ 17592186044416) :
    Calls Try.prog 30 #[va] w (Made 3 (ranks xs) w) := by
  have HRA := Lib.hid ha
  obtain ⟨A, c, b, off, rfl, hnc, hcm, ha, hcell⟩ := ha
  obtain ⟨n, hxn⟩ : ∃ n, n = xs.length := ⟨_, rfl⟩
  rw [← hxn] at hn hnc ha HRA ⊢
  have HX := Lib.hid hxn
  have HC := Lib.hid hcell
  have HA := Lib.hid ha
  clear hcell ha hxn
  unfold maxLen at hcm
  go_enter Try.func30, Try.ntmps30
  go_wp2_with fail
  refine (unite_any _ (.slice none 0 0) xs [] _ (HRA.out.below ((Below.refl _ _).alloc (Nat.le_refl _) _)) (ro_nil _) (by simp; rw [← HX.out]; exact hn)).mono ?_
  rintro e w4 ⟨v4, rfl, ho4, hb4⟩
  have hs4 : w.heap.size + 1 ≤ w4.heap.size := by have := hb4.size; simpa using this
  have hbw : Below w.heap.size w w4 := ((Below.refl _ _).alloc (Nat.le_refl _) _).trans (hb4.mono (by simp))
  have HOE4 := Lib.hid (Own.below (xs := []) (ownE (e := 3) (size := 1) w (Nat.le_refl _)) hb4)
  rw [List.append_nil] at ho4
  have HO4 := Lib.hid (ho4.mono (show w.heap.size + 1 ≤ _ by simp))
  have hul : (uni xs).length ≤ 17592186044416 := Nat.le_trans (uni_len xs) (by rw [← HX.out]; exact hn)
  have HUL := Lib.hid hul
  clear ho4 hul
  go_wp2_with fail
  go_loopg [3, 12] n (fun kx s3 s12 wr => ∃ (j k g cap : Nat) (L : List Int), s3 = .slice (some ⟨g, 0, none⟩) k cap ∧ s12 = .int .i64 j ∧ j ≤ n ∧ n - j ≤ kx ∧ k ≤ j ∧
    Hid (L = (xs.take j).map (fun v => (rank xs v : Int))) ∧ Hid (Out 3 w.heap.size w.heap.size w4 wr g k cap L))
  case atStart => exact ⟨0, 0, w.heap.size, 0, [], rfl, rfl, Nat.zero_le _, by omega, Nat.le_refl _, rfl, Out.start HOE4.out⟩
  case round =>
    obtain ⟨j, k, g, cap, L, rfl, rfl, hj, hjk, hkj, HL, HO⟩ := hrel
    obtain ⟨hgB, hgl, hlc, hcap, hsz⟩ := HO.out.lt
    unfold maxLen at hcap
    by_cases hlt : j < n
    · obtain ⟨x, hx⟩ : ∃ x, xs[j]? = some x := ⟨xs[j]'(by rw [← HX.out]; exact hlt), List.getElem?_eq_getElem _⟩
      obtain ⟨rfl, hbl⟩ := HA.out (by omega)
      have hc : wr.cell? ⟨b, off + j, none⟩ = some (.int .i64 x) := ((HO.out.belowW hbw (Nat.le_refl _)).cell (p := ⟨b, off + j, none⟩) hbl).trans (HC.out j x hx)
      have HST := Lib.hid (map_take (f := fun v => (rank xs v : Int)) hx)
      clear hx
      go_wp2_with fail
      refine (searchInts_any v4 (uni xs) x _ (HO.out.own HO4.out (Nat.lt_succ_self _)).ro (uni_sasc xs).asc HUL.out).mono ?_
      rw [show (uni xs).countP (fun y => decide (y < x)) = rank xs x from rfl]
      rintro e w' ⟨rfl, hbx⟩
      have HOX := Lib.hid (HO.out.below hbx)
      have hbs : wr.heap.size ≤ w'.heap.size := hbx.size
      obtain ⟨r, hr⟩ : ∃ r, r = rank xs x := ⟨_, rfl⟩
      rw [← hr] at HST ⊢
      clear HO hbx hr
      go_wp2_with (at_builtin; refine wpList_app _ rfl (.tmp 16) (.tmp 20) rfl ints_ok w.heap.size g k cap (L.map (Value.int .i64)) (by rfl) (HOX.out.row.alloc _) _ 1 1 [.int .i64 (r : Int)] (by rfl) (Src.one _ _ _) (by unfold maxLen; omega) (by omega) (by simp; omega) (k + 1) rfl _ rfl ?_; intro g5 cap5 w5 hown5 hgrow5 hat5)
      have HO5 := Lib.hid (HOX.out.app hown5 hgrow5 hat5)
      clear hown5 hgrow5 hat5
      go_wp2_with fail
      go_roundg (n - (j + 1))
      case measure => omega
      case rel => exact ⟨j + 1, k + 1, g5, cap5, L ++ [(r : Int)], rfl, by go_num, by omega, by omega, by omega, (by show L ++ [(r : Int)] = _; rw [HST.out, ← HL.out]), HO5.out⟩
    · obtain rfl : j = n := by omega
      have hfin : L = ranks xs := by
        rw [HL.out, List.take_of_length_le (by rw [← HX.out]; exact Nat.le_refl _)]
        rfl
      have HF := Lib.hid hfin
      clear hfin
      go_wp2_with fail
      go_ret
      exact HO.out.made hbw (Nat.le_refl _) HF.out

end Go.Proofs.Ytiioojnoggcnmaa

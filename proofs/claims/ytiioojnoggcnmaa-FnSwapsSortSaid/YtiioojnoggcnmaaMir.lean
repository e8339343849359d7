/-
  What is proved here: the contract of the laws' helper mirrored (a list from its end on); condition: at most 2^44 elements.
-/
import Derived.Test.YtiioojnoggcnmaaWf
namespace Go.Proofs.Ytiioojnoggcnmaa
open Go.RowKit
set_option linter.unusedVariables false

set_option maxHeartbeats 1000000 in
theorem mirrored_any (va : Value) (xs : List Int) (w : World) (ha : Ro w va xs) (hn : xs.length ≤ 17592186044416) :
    Calls Try.prog 16 #[va] w (Made 3 xs.reverse w) := by
  obtain ⟨A, c, b, off, rfl, hnc, hcm, ha, hcell⟩ := ha
  obtain ⟨n, hxn⟩ : ∃ n, n = xs.length := ⟨_, rfl⟩
  rw [← hxn] at hn hnc ha ⊢
  have HX := Lib.hid hxn
  have HC := Lib.hid hcell
  have HA := Lib.hid ha
  clear hcell ha hxn
  unfold maxLen at hcm
  have hbw : Below w.heap.size w (w.alloc (.cells #[] 3)) := (Below.refl _ _).alloc (Nat.le_refl _) _
  go_enter Try.func16, Try.ntmps16
  go_wp2_with fail
  go_loopg [3, 4] n (fun kx s3 s4 wr => ∃ (j g cap : Nat) (z : Int) (L : List Int), s3 = .slice (some ⟨g, 0, none⟩) j cap ∧ s4 = .int .i64 z ∧ j ≤ n ∧ n - j ≤ kx ∧ -1 ≤ z ∧ z < n ∧
    Hid (z = (n : Int) - 1 - j) ∧ Hid (L = xs.reverse.take j) ∧ Hid (Out 3 w.heap.size w.heap.size (w.alloc (.cells #[] 3)) wr g j cap L))
  case atStart => exact ⟨0, w.heap.size, 0, (n : Int) - 1, [], rfl, rfl, Nat.zero_le _, by omega, by omega, by omega, (by show (n : Int) - 1 = (n : Int) - 1 - (0 : Nat); omega), rfl, Out.start (ownE (e := 3) (size := 1) w (Nat.le_refl _))⟩
  case round =>
    obtain ⟨j, g, cap, z, L, rfl, rfl, hj, hjk, hz1, hz2, HZ, HL, HO⟩ := hrel
    obtain ⟨hgB, hgl, hlc, hcap, hsz⟩ := HO.out.lt
    unfold maxLen at hcap
    by_cases hlt : 0 ≤ z
    · obtain ⟨i, rfl⟩ : ∃ i : Nat, z = i := ⟨z.toNat, by omega⟩
      have hin : i < n := by omega
      have hjn : j < n := by have := HZ.out; omega
      obtain ⟨x, hx⟩ := get_some HX.out hin
      obtain ⟨rfl, hbl⟩ := HA.out (by omega)
      have hc : wr.cell? ⟨b, off + i, none⟩ = some (.int .i64 x) := ((HO.out.belowW hbw (Nat.le_refl _)).cell (p := ⟨b, off + i, none⟩) hbl).trans (HC.out i x hx)
      have hrv : xs.reverse[j]? = some x := by
        rw [List.getElem?_reverse (by rw [← HX.out]; exact hjn), ← HX.out, ← hx]
        congr 1
        have := HZ.out
        omega
      have HST := Lib.hid (show xs.reverse.take (j + 1) = xs.reverse.take j ++ [x] by rw [List.take_add_one, hrv]; rfl)
      clear hx hrv
      go_wp2_with (at_builtin; refine wpList_app _ rfl (.tmp 13) (.tmp 18) rfl ints_ok w.heap.size g j cap (L.map (Value.int .i64)) (by rfl) (HO.out.row.alloc _) _ 1 1 [.int .i64 x] (by rfl) (Src.one _ _ _) (by unfold maxLen; omega) (by omega) (by simp; omega) (j + 1) rfl _ rfl ?_; intro g5 cap5 w5 hown5 hgrow5 hat5)
      have HO5 := Lib.hid (HO.out.app hown5 hgrow5 hat5)
      clear hown5 hgrow5 hat5
      go_wp2_with fail
      go_roundg (n - (j + 1))
      case measure => omega
      case rel => exact ⟨j + 1, g5, cap5, (i : Int) - 1, L ++ [x], rfl, rfl, by omega, by omega, by omega, by omega, (by show (i : Int) - 1 = _; have := HZ.out; omega), (by show L ++ [x] = _; rw [HST.out, ← HL.out]), HO5.out⟩
    · have hz0 : z < 0 := by omega
      have hfin : L = xs.reverse := by
        rw [HL.out, List.take_of_length_le]
        rw [List.length_reverse, ← HX.out]
        have := HZ.out
        omega
      have HF := Lib.hid hfin
      clear hfin
      go_wp2_with fail
      go_ret
      exact HO.out.made hbw (Nat.le_refl _) HF.out

end Go.Proofs.Ytiioojnoggcnmaa

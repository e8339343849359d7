/-
  What is proved here: the contract of the laws' helper equals (how many pairs of a list are equal); condition: at most 2^21 elements.
-/
import Derived.Test.YtiioojnoggcnmaaWf
import Derived.Test.YtiioojnoggcnmaaInvMore
namespace Go.Proofs.Ytiioojnoggcnmaa
open Go.RowKit
set_option linter.unusedVariables false

theorem eqs_take {xs : List Int} {j : Nat} {x : Int} (h : xs[j]? = some x) : eqs (xs.take (j + 1)) = eqs (xs.take j) + (xs.take j).countP (fun y => decide (y = x)) := by
  rw [List.take_add_one, h]
  exact eqs_snoc _ x
theorem countP_takeE {l : List Int} {p : Int → Bool} {j : Nat} {x : Int} (h : l[j]? = some x) : (l.take (j + 1)).countP p = (l.take j).countP p + (if p x = true then 1 else 0) := by
  rw [List.take_add_one, h, List.countP_append]
  simp [List.countP_cons]
theorem eqs_bound (xs : List Int) (j n : Nat) (h : xs.length ≤ n) : eqs (xs.take j) ≤ n * n := by
  have h1 := eqs_le (xs.take j)
  have h2 : (xs.take j).length ≤ n := by rw [List.length_take]; omega
  exact Nat.le_trans h1 (Nat.mul_le_mul h2 h2)

set_option maxHeartbeats 2000000 in
theorem equals_any (va : Value) (xs : List Int) (w : World) (h : Ro w va xs) (hn : xs.length ≤ 2097152) :
    Calls Try.prog 28 #[va] w fun e w' => e = .returned (.int .i64 (eqs xs : Nat)) ∧ Below w.heap.size w w' := by
  obtain ⟨A, c, b, off, rfl, hnc, hcm, ha, hcell⟩ := h
  obtain ⟨n, hxn⟩ : ∃ n, n = xs.length := ⟨_, rfl⟩
  rw [← hxn] at hn hnc ha ⊢
  have HX := Lib.hid hxn
  have HC := Lib.hid hcell
  have HA := Lib.hid ha
  clear hcell ha hxn
  unfold maxLen at hcm
  obtain ⟨r, hr⟩ : ∃ r, r = eqs xs := ⟨_, rfl⟩
  rw [← hr]
  have HR := Lib.hid hr
  clear hr
  go_enter Try.func28, Try.ntmps28
  go_wp2_with fail
  go_loopg [3, 8] n (fun kx s3 s8 wr => ∃ (j q : Nat), s3 = .int .i64 q ∧ s8 = .int .i64 j ∧ j ≤ n ∧ n - j ≤ kx ∧ q ≤ 4398046511104 ∧ Below w.heap.size w wr ∧ Hid (q = eqs (xs.take j)))
  case atStart => exact ⟨0, 0, rfl, rfl, Nat.zero_le _, by omega, by omega, Below.refl _ _, by show 0 = eqs (xs.take 0); simp [eqs]⟩
  case round =>
    obtain ⟨j, q, rfl, rfl, hj, hjk, hq, hb, HQ⟩ := hrel
    by_cases hlt : j < n
    · obtain ⟨x, hx⟩ := get_some HX.out hlt
      obtain ⟨rfl, hbl⟩ := HA.out (by omega)
      have HXJ := Lib.hid hx
      clear hx
      go_wp2_with fail
      go_loopg [3, 12] j (fun kx s3 s12 wq => ∃ (i p : Nat), s3 = .int .i64 p ∧ s12 = .int .i64 i ∧ i ≤ j ∧ j - i ≤ kx ∧ p ≤ 4398046511104 + i ∧ Below w.heap.size w wq ∧ Hid (p = q + (xs.take i).countP (fun y => decide (y = x))))
      case atStart => exact ⟨0, q, rfl, rfl, Nat.zero_le _, by omega, by omega, hb, by show q = q + (xs.take 0).countP _; simp⟩
      case round =>
        clear hb
        obtain ⟨i, p, rfl, rfl, hi, hik, hp, hb, HP⟩ := hrel
        by_cases hil : i < j
        · obtain ⟨y, hy⟩ := get_some HX.out (show i < n by omega)
          have hc1 : wr.cell? ⟨b, off + j, none⟩ = some (.int .i64 x) := (hb.cell (p := ⟨b, off + j, none⟩) hbl).trans (HC.out j x HXJ.out)
          have hc2 : wr.cell? ⟨b, off + i, none⟩ = some (.int .i64 y) := (hb.cell (p := ⟨b, off + i, none⟩) hbl).trans (HC.out i y hy)
          have HST := Lib.hid (countP_takeE (p := fun y => decide (y = x)) hy)
          have z1 : (0 : Int) ≤ (i : Int) := by omega
          have z2 : (i : Int) < (n : Int) := by omega
          have z3 : (0 : Int) ≤ (j : Int) := by omega
          have z4 : (j : Int) < (n : Int) := by omega
          clear hy
          by_cases hxy : x = y
          · subst hxy
            go_wp2_with fail
            go_quiet (fail)
            go_wp2_with fail
            go_roundg (j - (i + 1))
            case measure => omega
            case rel => exact ⟨i + 1, p + 1, by go_num, by go_num, by omega, by omega, by omega, below_drawn hb _, (by show p + 1 = _; rw [HST.out, HP.out, if_pos (by simp), Nat.add_assoc])⟩
          · have hne : (x == y) = false := by simpa using hxy
            have hne2 : ¬ y = x := fun e => hxy e.symm
            go_wp2_with fail
            go_quiet (fail)
            go_wp2_with fail
            go_roundg (j - (i + 1))
            case measure => omega
            case rel => exact ⟨i + 1, p, by go_num, by go_num, by omega, by omega, by omega, below_drawn hb _, (by show p = _; rw [HST.out, HP.out, if_neg (by simpa using hne2)]; rfl)⟩
        · obtain rfl : i = j := by omega
          have HN : Hid (p = eqs (xs.take (i + 1))) := by
            show p = _
            rw [eqs_take HXJ.out, HP.out, HQ.out]
          have hpb : p ≤ 4398046511104 := by
            rw [HN.out]
            exact eqs_bound xs _ 2097152 (by rw [← HX.out]; exact hn)
          go_wp2_with fail
          go_roundg (n - (i + 1))
          case measure => omega
          case rel => exact ⟨i + 1, p, rfl, by go_num, by omega, by omega, hpb, hb, HN.out⟩
    · obtain rfl : j = n := by omega
      have hf : q = r := by rw [HR.out, HQ.out, List.take_of_length_le (by rw [← HX.out]; exact Nat.le_refl _)]
      subst hf
      go_wp2_with fail
      go_ret
      exact ⟨rfl, hb⟩

end Go.Proofs.Ytiioojnoggcnmaa

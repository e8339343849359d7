/-
  What is proved here: the contract of the reference's Inversions and the walk of the exact law on Inversions; condition of the contract: at most 2^21 elements.
-/
import Derived.Test.YtbgimajgbgfomaaInv
namespace Go.Proofs.Ytbgimajgbgfomaa
open Go.RowKit
set_option linter.unusedVariables false

theorem inv_drop {xs : List Int} {i : Nat} {v : Int} (h : xs[i]? = some v) : inv (xs.drop i) = (xs.drop i).countP (fun y => decide (y < v)) + inv (xs.drop (i + 1)) := by
  obtain ⟨hi, hv⟩ := List.getElem?_eq_some_iff.1 h
  rw [List.drop_eq_getElem_cons hi, hv]
  simp [inv]

theorem count_step {l : List Int} {j : Nat} {y v : Int} (h : l[j]? = some y) : (l.take (j + 1)).countP (fun y => decide (y < v)) = (l.take j).countP (fun y => decide (y < v)) + (if y < v then 1 else 0) := by
  rw [List.take_add_one, h, List.countP_append]
  simp [List.countP_cons]

theorem count_le (l : List Int) (j : Nat) (v : Int) : (l.take j).countP (fun y => decide (y < v)) ≤ l.length := by
  have h1 : (l.take j).countP (fun y => decide (y < v)) ≤ (l.take j).length := List.countP_le_length
  have h2 : (l.take j).length ≤ l.length := by rw [List.length_take]; omega
  omega

set_option maxHeartbeats 1000000 in
theorem specInversions_any (v : Value) (xs : List Int) (w : World) (h : Ro w v xs) (hn : xs.length ≤ 2097152) :
    Calls Try.prog 13 #[v] w fun e w' => e = .returned (.int .i64 (inv xs)) ∧ w = w' := by
  obtain ⟨A, c, b, off, rfl, hnc, hcm, ha, hcell⟩ := h
  obtain ⟨n, hxn⟩ : ∃ n, n = xs.length := ⟨_, rfl⟩
  have hile := inv_le xs
  have hsq := Nat.mul_le_mul hn hn
  rw [← hxn] at hn hnc ha ⊢
  have HX := Lib.hid hxn
  have HC := Lib.hid hcell
  have HA := Lib.hid ha
  have hbig : inv xs ≤ 4398046511104 := by omega
  clear hxn hcell ha hile hsq
  unfold maxLen at hcm
  go_enter Try.func13, Try.ntmps13
  go_wp2_with fail
  go_loopg [3, 10] n (fun kx s3 s10 wr => ∃ i cnt : Nat, i ≤ n ∧ s10 = .int .i64 i ∧ s3 = .int .i64 cnt ∧ n - i ≤ kx ∧ cnt ≤ 4398046511104 ∧ wr = w ∧ Hid (cnt + inv (xs.drop i) = inv xs))
  case atStart => exact ⟨0, 0, Nat.zero_le _, rfl, rfl, by omega, by omega, rfl, by show 0 + inv (xs.drop 0) = inv xs; simp⟩
  case round =>
    obtain ⟨i, cnt, hi, rfl, rfl, hkk, hc1, rfl, HI⟩ := hrel
    by_cases hlt : i < n
    · obtain ⟨x, hx⟩ : ∃ x, xs[i]? = some x := ⟨xs[i]'(by have := HX.out; omega), List.getElem?_eq_getElem _⟩
      obtain ⟨rfl, hbl⟩ := HA.out (by omega)
      have hcx := HC.out i x hx
      have hci : ¬ c = i := by omega
      have HD := Lib.hid (inv_drop hx)
      clear hx
      go_wp2_with fail
      go_loopg [3, 19] (n - i) (fun kx s3 s19 wq => ∃ j ct : Nat, j ≤ n - i ∧ s19 = .int .i64 j ∧ s3 = .int .i64 ct ∧ n - i - j ≤ kx ∧ ct ≤ 4398046511104 ∧ wq = wr ∧ Hid (ct = cnt + ((xs.drop i).take j).countP (fun y => decide (y < x))))
      case atStart => exact ⟨0, cnt, Nat.zero_le _, rfl, rfl, by omega, hc1, rfl, by show cnt = _; simp⟩
      case round =>
        obtain ⟨j, ct, hj, rfl, rfl, hjk, hct, rfl, HJ⟩ := hrel
        by_cases hjl : j < n - i
        · obtain ⟨y, hy⟩ : ∃ y, xs[i + j]? = some y := ⟨xs[i + j]'(by have := HX.out; omega), List.getElem?_eq_getElem _⟩
          have hcy := HC.out (i + j) y hy
          rw [← Nat.add_assoc] at hcy
          have hstep := count_step (v := x) (show (xs.drop i)[j]? = some y by rw [List.getElem?_drop]; exact hy)
          have hle : cnt + ((xs.drop i).take (j + 1)).countP (fun y => decide (y < x)) ≤ 4398046511104 := by
            have h1 : ((xs.drop i).take (j + 1)).countP (fun y => decide (y < x)) ≤ (xs.drop i).countP (fun y => decide (y < x)) := (List.take_sublist _ _).countP_le
            have h2 := HD.out
            have h3 := HI.out
            omega
          rw [hstep] at hle
          have HSTEP := Lib.hid hstep
          have HLE := Lib.hid hle
          clear hy hstep hle
          by_cases hyx : y < x
          · have hct2 : ct + 1 ≤ 4398046511104 := by have h1 := HLE.out; have h2 := HJ.out; rw [if_pos hyx] at h1; omega
            go_wp2_with fail
            go_roundg (n - i - (j + 1))
            case measure => omega
            case rel => exact ⟨j + 1, ct + 1, by omega, by go_num, by go_num, by omega, hct2, rfl, by show ct + 1 = cnt + _; rw [HSTEP.out, if_pos hyx, HJ.out]; omega⟩
          · go_wp2_with fail
            go_roundg (n - i - (j + 1))
            case measure => omega
            case rel => exact ⟨j + 1, ct, by omega, by go_num, by go_num, by omega, hct, rfl, by show ct = cnt + _; rw [HSTEP.out, if_neg (by omega), HJ.out]; rfl⟩
        · go_wp2_with fail
          go_roundg (n - (i + 1))
          case measure => omega
          case rel =>
            refine ⟨i + 1, ct, by omega, by go_num, rfl, by omega, hct, rfl, ?_⟩
            show ct + inv (xs.drop (i + 1)) = inv xs
            have h1 := HJ.out
            rw [List.take_of_length_le (by rw [List.length_drop, ← HX.out]; omega)] at h1
            have h2 := HD.out
            have h3 := HI.out
            omega
    · obtain rfl : i = n := by omega
      go_wp2_with fail
      go_ret
      refine ⟨ret_int ?_, rfl⟩
      have h3 := HI.out
      rw [List.drop_of_length_le (by rw [← HX.out]; omega)] at h3
      simp [inv] at h3
      omega

set_option maxHeartbeats 1000000 in
theorem walk_FnExactInversions (v0 : Value) (x0 : List Int) (w : World) (h0 : Ro w v0 x0) (f0 : ∀ x ∈ x0, (Lit.int .i64 x).wf = true) (n0 : x0.length * 8 ≤ 140737488351232) :
    Calls Try.prog 3 #[v0] w fun e w' => e = .returned (.bool true) ∧ Below w.heap.size w w' := by
  have r0 := Lib.hid h0
  obtain ⟨A0, c0, b0, off0, rfl, hnc0, hcm0, ha0, hcell0⟩ := h0
  obtain ⟨l0, hl0⟩ : ∃ n, n = x0.length := ⟨_, rfl⟩
  rw [← hl0] at r0 n0 ⊢
  have HL0 := Lib.hid hl0
  clear f0 ha0 hcell0 hnc0 hl0
  unfold maxLen at hcm0
  by_cases big0 : 1048576 < (l0 : Int)
  · go_enter Try.func3, Try.ntmps3
    go_wp2_with fail
    go_ret
    exact ⟨rfl, Below.refl _ _⟩
  have xl0 : x0.length ≤ 1048576 := by rw [← HL0.out]; omega
  generalize hI : inv x0 = I
  have HI := Lib.hid hI
  clear hI
  go_enter Try.func3, Try.ntmps3
  go_wp2_with fail
  refine (toIntS_any _ x0 _ r0.out (by omega)).mono ?_
  rintro e W1 ⟨s0v, rfl, o1, b1⟩
  go_wp2_with fail
  refine (specInversions_any _ x0 _ o1.ro (by omega)).mono ?_
  rw [HI.out]
  rintro e W1 ⟨rfl, rfl⟩
  go_wp2_with fail
  refine (toIntS_any _ x0 _ (r0.out.below b1) (by omega)).mono ?_
  rintro e W3 ⟨x0v, rfl, o3, b3⟩
  have bt3 : Below w.heap.size w W3 := b1.trans (b3.mono b1.size)
  go_wp2_with fail
  refine (inversions_any _ x0 _ o3.ro (by omega)).mono ?_
  rw [HI.out]
  rintro e W4 ⟨rfl, b4⟩
  have bt4 : Below w.heap.size w W4 := bt3.trans (b4.mono bt3.size)
  go_wp2_with fail
  refine (toIntS_any _ x0 _ (r0.out.below bt4) (by omega)).mono ?_
  rintro e W5 ⟨t0v, rfl, o5, b5⟩
  have bt5 : Below w.heap.size w W5 := bt4.trans (b5.mono bt4.size)
  go_wp2_with fail
  refine (eqIntS_any _ _ _ _ ((o3.below b4).below b5).ro o5.ro).mono ?_
  rintro e W6 ⟨rfl, b6⟩
  go_wp2_with fail
  go_ret
  exact ⟨rfl, bt5.trans (b6.mono bt5.size)⟩

end Go.Proofs.Ytbgimajgbgfomaa

/-
  What is proved here: the walk of the law FnMergeCount; no other condition.
-/
import Derived.Test.YtpkdjdofbedncaaSpans
import Derived.Test.YtpkdjdofbedncaaUnite
import Derived.Test.YtpkdjdofbedncaaSame
namespace Go.Proofs.Ytpkdjdofbedncaa
open Go.RowKit
set_option linter.unusedVariables false

/-- What the inner loop has found, up to k. -/
def firstUpto (l : List (Int × Int)) (p q : Int) (k : Nat) : Bool := decide (p < q) && (l.take k).all fun o => !decide (o.1 < p ∧ p ≤ o.2)
theorem firstUpto_zero (l : List (Int × Int)) (p q : Int) : firstUpto l p q 0 = decide (p < q) := by simp [firstUpto]
theorem firstUpto_hit {l : List (Int × Int)} {p q a b : Int} {k : Nat} (h : l[k]? = some (a, b)) (h1 : a < p) (h2 : p ≤ b) : firstUpto l p q (k + 1) = false := by
  unfold firstUpto
  rw [List.take_add_one, h, List.all_append]
  simp [h1, h2]
theorem firstUpto_miss {l : List (Int × Int)} {p q a b : Int} {k : Nat} (h : l[k]? = some (a, b)) (h1 : ¬ (a < p ∧ p ≤ b)) : firstUpto l p q (k + 1) = firstUpto l p q k := by
  unfold firstUpto
  rw [List.take_add_one, h, List.all_append]
  have : (decide (a < p ∧ p ≤ b)) = false := decide_eq_false h1
  simp only [Option.toList_some, List.all_cons, List.all_nil, Bool.and_true, this, Bool.not_false]
theorem firstUpto_end {l : List (Int × Int)} {p q : Int} {k : Nat} (h : l.length ≤ k) : firstUpto l p q k = isFirst l (p, q) := by
  unfold firstUpto isFirst
  rw [List.take_of_length_le h]
def beginsUpto (l : List (Int × Int)) (k : Nat) : List Int := ((l.take k).filter (isFirst l)).map (·.1)
theorem beginsUpto_step {l : List (Int × Int)} {p q : Int} {k : Nat} (h : l[k]? = some (p, q)) : beginsUpto l (k + 1) = beginsUpto l k ++ (if isFirst l (p, q) = true then [p] else []) := by
  unfold beginsUpto
  rw [List.take_add_one, h, List.filter_append, List.map_append]
  congr 1
  by_cases hf : isFirst l (p, q) = true
  · simp [hf]
  · simp [hf]
theorem beginsUpto_end {l : List (Int × Int)} {k : Nat} (h : l.length ≤ k) : beginsUpto l k = begins l := by
  unfold beginsUpto begins
  rw [List.take_of_length_le h]

set_option maxRecDepth 100000 in
set_option maxHeartbeats 8000000 in
theorem walk_FnMergeCount (v0 : Value) (x0 : List (Int × Int)) (w : World) (h0 : Ros2 w v0 x0) (f0 : ∀ x ∈ x0, (Lit.int .i64 x.1).wf = true ∧ (Lit.int .i64 x.2).wf = true) (n0 : x0.length * 16 ≤ 140737488351232) :
    Calls Try.prog 9 #[v0] w fun e w' => e = .returned (.bool true) ∧ Below w.heap.size w w' := by
  have R_v0 := Lib.hid h0
  clear h0 f0
  obtain ⟨A0, c0, b0, off0, rfl, hnc0, hcm0, -, -⟩ := R_v0.out.shape
  obtain ⟨l0, hl0⟩ : ∃ n, n = x0.length := ⟨_, rfl⟩
  rw [← hl0] at R_v0 n0 hnc0 ⊢
  have HL0 := Lib.hid hl0
  clear hl0
  unfold maxLen at hcm0
  have B_v0 := R_v0
  have hbw : Below w.heap.size w (w.alloc (.cells #[] 3)) := (Below.refl _ _).alloc (Nat.le_refl _) _
  go_enter Try.func9, Try.ntmps9
  go_wp2_with fail
  go_loopg [3, 12] l0 (fun kx s3 s12 wr => ∃ (j k g cap : Nat) (L : List Int), s3 = .slice (some ⟨g, 0, none⟩) k cap ∧ s12 = .int .i64 j ∧ j ≤ l0 ∧ l0 - j ≤ kx ∧ k ≤ j ∧
    Hid (L = beginsUpto x0 j) ∧ Hid (Out 3 w.heap.size w.heap.size (w.alloc (.cells #[] 3)) wr g k cap L))
  case atStart => exact ⟨0, 0, w.heap.size, 0, [], rfl, rfl, Nat.zero_le _, by omega, Nat.le_refl _, rfl, Out.start (ownE (e := 3) (size := 1) w (Nat.le_refl _))⟩
  case round =>
    obtain ⟨j, k, g, cap, L, rfl, rfl, hj, hjk, hkj, HL, HO⟩ := hrel
    obtain ⟨hgB, hgl, hlc, hcap, hsz⟩ := HO.out.lt
    unfold maxLen at hcap
    have hbW : Below w.heap.size w wr := HO.out.belowW hbw (Nat.le_refl _)
    by_cases hlt : j < l0
    · obtain ⟨p, q, hx⟩ : ∃ p q, x0[j]? = some (p, q) := ⟨_, _, List.getElem?_eq_getElem (by rw [← HL0.out]; exact hlt)⟩
      obtain ⟨b, off, rfl, hc0, hc1, hbl⟩ := (B_v0.out.below hbW).at hx
      have HST := Lib.hid (beginsUpto_step hx)
      clear hx
      obtain ⟨W1, hW1⟩ : ∃ W1, W1 = wr.alloc (.cells #[.int .i64 p, .int .i64 q] 37) := ⟨_, rfl⟩
      have hbA : Below wr.heap.size wr W1 := by rw [hW1]; exact (Below.refl _ _).alloc (Nat.le_refl _) _
      have HOA := Lib.hid (HO.out.below hbA)
      have hs1 : W1.heap.size = wr.heap.size + 1 := by rw [hW1]; simp
      have cs0 : W1.cell? ⟨wr.heap.size, 0, none⟩ = some (.int .i64 p) := by rw [hW1]; simp [go_sem]
      have cs1 : W1.cell? ⟨wr.heap.size, 1, none⟩ = some (.int .i64 q) := by rw [hW1]; simp [go_sem]
      have hbW1 : Below w.heap.size w W1 := hbW.trans (hbA.mono hbW.size)
      have HCS := Lib.hid (And.intro cs0 cs1)
      clear cs0 cs1
      obtain ⟨f0, hf0⟩ : ∃ f0, f0 = decide (p < q) := ⟨_, rfl⟩
      have HF0 := Lib.hid (hf0.trans (firstUpto_zero x0 p q).symm)
      have hf0' : decide (p < q) = f0 := hf0.symm
      clear hf0
      obtain ⟨bs, hbs⟩ : ∃ bs, bs = wr.heap.size := ⟨_, rfl⟩
      go_wp2_with fail
      rw [← hW1]
      rw [← hbs] at HCS hs1 ⊢
      have hB1 : w.heap.size ≤ W1.heap.size := hbW1.size
      clear hW1 hf0' hbs HO hgl hsz hbW hbA
      go_loopg [6, 23] l0 (fun kx s6 s23 wr2 => ∃ (t : Nat) (f : Bool), s6 = .bool f ∧ s23 = .int .i64 t ∧ t ≤ l0 ∧ l0 - t ≤ kx ∧ Below W1.heap.size W1 wr2 ∧ Hid (f = firstUpto x0 p q t))
      case atStart => exact ⟨0, f0, rfl, rfl, Nat.zero_le _, by omega, Below.refl _ _, HF0.out⟩
      case round =>
        obtain ⟨t, f, rfl, rfl, ht, htk, hb2, HF⟩ := hrel
        have hz2 := hb2.size
        have hbsl : bs < wr.heap.size := by omega
        have hbsn : ¬ bs = wr.heap.size := by omega
        have cp0 : wr.cell? ⟨bs, 0, none⟩ = some (.int .i64 p) := (hb2.cell (p := ⟨bs, 0, none⟩) (by show bs < _; omega)).trans HCS.out.1
        by_cases htl : t < l0
        · obtain ⟨a, c, hx⟩ : ∃ p q, x0[t]? = some (p, q) := ⟨_, _, List.getElem?_eq_getElem (by rw [← HL0.out]; exact htl)⟩
          obtain ⟨b', off', e2, hd0, hd1, hbl2⟩ := (B_v0.out.below (hbW1.trans (hb2.mono hbW1.size))).at hx
          simp only [Option.some.injEq, Addr.mk.injEq, and_true] at e2
          obtain ⟨rfl, rfl⟩ := e2
          have hbA2 : Below W1.heap.size W1 (wr.alloc (.cells #[.int .i64 a, .int .i64 c] 37)) := hb2.alloc hb2.size _
          by_cases h1 : a < p
          · by_cases h2 : p ≤ c
            · have HN : Hid (false = firstUpto x0 p q (t + 1)) := (firstUpto_hit hx h1 h2).symm
              clear hx
              go_wp2_with fail
              go_roundg (l0 - (t + 1))
              case measure => omega
              case rel => exact ⟨t + 1, false, rfl, by go_num, by omega, by omega, hbA2, HN.out⟩
            · have HN : Hid (f = firstUpto x0 p q (t + 1)) := HF.out.trans (firstUpto_miss hx (by omega)).symm
              clear hx
              go_wp2_with fail
              go_roundg (l0 - (t + 1))
              case measure => omega
              case rel => exact ⟨t + 1, f, rfl, by go_num, by omega, by omega, hbA2, HN.out⟩
          · have HN : Hid (f = firstUpto x0 p q (t + 1)) := HF.out.trans (firstUpto_miss hx (by omega)).symm
            clear hx
            go_wp2_with fail
            go_roundg (l0 - (t + 1))
            case measure => omega
            case rel => exact ⟨t + 1, f, rfl, by go_num, by omega, by omega, hbA2, HN.out⟩
        · have HFE : Hid (f = isFirst x0 (p, q)) := by
            have h := HF.out
            rw [firstUpto_end (by rw [← HL0.out]; omega)] at h
            exact h
          have HO2 := Lib.hid (HOA.out.below hb2)
          obtain ⟨-, hgl2, -, -, hsz2⟩ := HO2.out.lt
          clear HOA HF
          cases f with
          | true =>
            have HN : Hid (L ++ [p] = beginsUpto x0 (j + 1)) := by show L ++ [p] = _; rw [HST.out, ← HFE.out, if_pos rfl, HL.out]
            go_wp2_with (at_builtin; refine wpList_app _ rfl (.tmp 41) (.tmp 44) rfl ints_ok w.heap.size g k cap (L.map (Value.int .i64)) (by rfl) (HO2.out.row.alloc _) _ 1 1 [.int .i64 p] (by rfl) (Src.one _ _ _) (by unfold maxLen; omega) (by omega) (by simp; omega) (k + 1) rfl _ rfl ?_; intro g5 cap5 w5 hown5 hgrow5 hat5)
            have HO5 := Lib.hid (HO2.out.app hown5 hgrow5 hat5)
            clear hown5 hgrow5 hat5
            go_wp2_with fail
            go_roundg (l0 - (j + 1))
            case measure => omega
            case rel => exact ⟨j + 1, k + 1, g5, cap5, L ++ [p], rfl, by go_num, by omega, by omega, by omega, HN.out, HO5.out⟩
          | false =>
            have HN : Hid (L = beginsUpto x0 (j + 1)) := by show L = _; rw [HST.out, ← HFE.out, if_neg (by simp), List.append_nil, HL.out]
            go_wp2_with fail
            go_roundg (l0 - (j + 1))
            case measure => omega
            case rel => exact ⟨j + 1, k, g, cap, L, rfl, by go_num, by omega, by omega, by omega, HN.out, HO2.out⟩
    · obtain rfl : j = l0 := by omega
      have hfin : L = begins x0 := by rw [HL.out, beginsUpto_end (by rw [← HL0.out]; exact Nat.le_refl _)]
      have R_vb : Hid (Ro wr (.slice (some ⟨g, 0, none⟩) k cap) (begins x0)) := by
        have h := HO.out.2.1.ro
        rw [hfin] at h
        exact h
      have HBL : Hid ((begins x0).length ≤ 8796093022207) := by
        show (begins x0).length ≤ _
        rw [← hfin, HO.out.1]
        omega
      replace R_v0 := Lib.hid (B_v0.out.below hbW)
      have bt1 : Below w.heap.size w wr := hbW
      clear HO hfin HL B_v0 hbW
      go_wp2_with fail
      refine (merge_any _ x0 _ R_v0.out (by rw [← HL0.out]; omega)).mono ?_
      rintro e W2 ⟨va, rfl, o2, b2⟩
      replace R_v0 := Lib.hid (R_v0.out.below b2)
      replace R_vb := Lib.hid (R_vb.out.below b2)
      have bt2 : Below w.heap.size w W2 := bt1.trans (b2.mono bt1.size)
      clear bt1
      clear b2
      have R_va := Lib.hid o2.ros2
      clear o2
      obtain ⟨A_va, c_va, b_va, off_va, rfl, hnc_va, hcm_va, -, -⟩ := R_va.out.shape
      obtain ⟨m, h_m⟩ : ∃ n, n = (merged x0).length := ⟨_, rfl⟩
      rw [← h_m] at R_va hnc_va ⊢
      have b_m : m ≤ 8796093022207 := by rw [h_m]; have := merged_len x0; rw [← HL0.out] at this; omega
      have H_m := Lib.hid h_m
      clear h_m
      unfold maxLen at hcm_va
      go_wp2_with fail
      refine (unite_any _ (.slice none 0 0) (begins x0) [] _ R_vb.out (ro_nil _) (by simp only [List.length_nil]; have := HBL.out; omega)).mono ?_
      rintro e W3 ⟨vu, rfl, o3, b3⟩
      replace R_v0 := Lib.hid (R_v0.out.below b3)
      replace R_vb := Lib.hid (R_vb.out.below b3)
      replace R_va := Lib.hid (R_va.out.below b3)
      have bt3 : Below w.heap.size w W3 := bt2.trans (b3.mono bt2.size)
      clear bt2
      clear b3
      have R_vu := Lib.hid o3.ro
      clear o3
      obtain ⟨A_vu, c_vu, b_vu, off_vu, rfl, hnc_vu, hcm_vu, -, -⟩ := R_vu.out.shape
      obtain ⟨m2, h_m2⟩ : ∃ n, n = (uni (begins x0 ++ [])).length := ⟨_, rfl⟩
      rw [← h_m2] at R_vu hnc_vu ⊢
      have b_m2 : m2 ≤ 8796093022207 := by rw [h_m2]; rw [List.append_nil, ← merge_count, ← H_m.out]; exact b_m
      have H_m2 := Lib.hid h_m2
      clear h_m2
      unfold maxLen at hcm_vu
      obtain rfl : m2 = m := by rw [H_m2.out, H_m.out, List.append_nil, merge_count]
      go_wp2_with fail
      refine (works_any _).mono ?_
      rintro e W4 ⟨rfl, b4⟩
      replace R_v0 := Lib.hid (R_v0.out.below b4)
      replace R_vb := Lib.hid (R_vb.out.below b4)
      replace R_va := Lib.hid (R_va.out.below b4)
      replace R_vu := Lib.hid (R_vu.out.below b4)
      have bt4 : Below w.heap.size w W4 := bt3.trans (b4.mono bt3.size)
      clear bt3
      clear b4
      go_wp2_with fail
      go_ret
      exact ⟨rfl, bt4⟩

end Go.Proofs.Ytpkdjdofbedncaa

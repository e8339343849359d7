/-
  What is proved here: the walk of the law FnCutJoined; no other condition.
-/
import Derived.Test.YtpkdjdofbedncaaCut
import Derived.Test.YtpkdjdofbedncaaCutV
import Derived.Test.YtpkdjdofbedncaaSub
import Derived.Test.YtpkdjdofbedncaaSame
namespace Go.Proofs.Ytpkdjdofbedncaa
open Go.RowKit
set_option linter.unusedVariables false

theorem cut_val (v : Value) (xs : List Int) (k : Int) (q : Nat) (w : World) (h : Ro w v xs) (hn : xs.length ≤ 17592186044416) (hk : k % 10 = (q : Int)) (c : Nat) (hc : cutv q (lds xs) = c) :
    Calls Try.prog 13 #[v, .int .i64 k] w fun e w' => e = .returned (.int .i64 (c : Int)) ∧ Below w.heap.size w w' :=
  (cut_any v xs k q w h hn hk).mono fun e w' ⟨c', h1, h2, _, h4⟩ => ⟨by rw [h1, cutv_eq h2, hc], h4⟩
theorem cutv_le (q : Nat) (ls : List Nat) : cutv q ls ≤ ls.sum := isCut_le (cutv_is q ls)
theorem ro_none (w : World) (A : Option Addr) (c : Nat) (hc : c ≤ maxLen) {xs : List Int} (h : xs.length = 0) : Ro w (.slice A 0 c) xs := by
  have : xs = [] := List.eq_nil_of_length_eq_zero h
  subst this
  exact ⟨A, c, 0, 0, rfl, Nat.zero_le _, hc, fun h => absurd h (by simp), fun k x hx => by simp at hx⟩

set_option maxRecDepth 100000 in
set_option maxHeartbeats 8000000 in
theorem walk_FnCutJoined (v0 : Value) (x0 : List Int) (a1 : Int) (a2 : Int) (w : World) (h0 : Ro w v0 x0) (f0 : ∀ x ∈ x0, (Lit.int .i64 x).wf = true) (n0 : x0.length * 8 ≤ 140737488351232) (f1 : (Lit.int .i64 a1).wf = true) (f2 : (Lit.int .i64 a2).wf = true) :
    Calls Try.prog 3 #[v0, .int .i64 a1, .int .i64 a2] w fun e w' => e = .returned (.bool true) ∧ Below w.heap.size w w' := by
  have R_v0 := Lib.hid h0
  clear h0 f0
  clear f1
  clear f2
  obtain ⟨A0, c0, b0, off0, rfl, hnc0, hcm0, -, -⟩ := R_v0.out.shape
  obtain ⟨l0, hl0⟩ : ∃ n, n = x0.length := ⟨_, rfl⟩
  rw [← hl0] at R_v0 n0 hnc0 ⊢
  have HL0 := Lib.hid hl0
  clear hl0
  have HCM := Lib.hid hcm0
  unfold maxLen at hcm0
  obtain ⟨P, hP⟩ : ∃ P : Nat, a1 % 5 = (P : Int) := ⟨(a1 % 5).toNat, by omega⟩
  obtain ⟨Q, hQ⟩ : ∃ Q : Nat, a2 % 5 = (Q : Int) := ⟨(a2 % 5).toNat, by omega⟩
  have hP5 : P < 5 := by omega
  have hQ5 : Q < 5 := by omega
  have HP := Lib.hid hP
  have HQ := Lib.hid hQ
  clear hP hQ
  have hls : (lds x0).sum ≤ 999 * 17592186044416 := by have h := lds_sum x0 x0.length; rw [List.take_of_length_le (by rw [lds_len]; exact Nat.le_refl _), ← HL0.out] at h; omega
  obtain ⟨c, hc⟩ : ∃ c, cutv (P + Q + 1) (lds x0) = c := ⟨_, rfl⟩
  have HC := Lib.hid hc
  have hcb : c ≤ 17574594000000000 := by have h := cutv_le (P + Q + 1) (lds x0); rw [hc] at h; omega
  clear hc
  have hlen : x0.length ≤ 17592186044416 := by rw [← HL0.out]; omega
  have HLEN := Lib.hid hlen
  clear hlen
  have hsh : (∃ a, A0 = some a ∧ l0 = 0) ∨ (A0 = none ∧ l0 = 0) ∨ (∃ b off, A0 = some ⟨b, off, none⟩ ∧ 0 < l0) := by
    rcases Nat.eq_zero_or_pos l0 with h | h
    · cases A0 with
      | none => exact .inr (.inl ⟨rfl, h⟩)
      | some a => exact .inl ⟨a, rfl, h⟩
    · obtain ⟨x, hx⟩ := get_some HL0.out h
      obtain ⟨b, off, e, _, _⟩ := R_v0.out.at hx
      exact .inr (.inr ⟨b, off, e, h⟩)
  have B_v0 := R_v0
  have HSH := Lib.hid hsh
  clear hsh
  go_enter Try.func3, Try.ntmps3
  go_wp2_with fail
  refine (specAt_any a1 5 _ (by omega) (by omega)).mono ?_
  rw [HP.out]
  rintro e w' ⟨rfl, rfl⟩
  go_wp2_with fail
  refine (specAt_any a2 5 _ (by omega) (by omega)).mono ?_
  rw [HQ.out]
  rintro e w' ⟨rfl, rfl⟩
  go_wp2_with fail
  refine (cut_val _ x0 _ (P + Q + 1) _ R_v0.out HLEN.out (by omega) c HC.out).mono ?_
  rintro e W1 ⟨rfl, bt1⟩
  clear R_v0
  go_wp2_with fail
  go_loopg [8, 26] (l0 + 1) (fun kx s8 s26 wr => ∃ (k : Nat) (z : Int), k ≤ l0 + 1 ∧ s8 = .int .i64 z ∧ s26 = .int .i64 k ∧ l0 + 1 - k ≤ kx ∧ Below w.heap.size w wr ∧ Hid (Best P Q (lds x0) k z))
  case atStart => exact ⟨0, -1, Nat.zero_le _, rfl, rfl, by omega, bt1, .inl ⟨rfl, by omega⟩⟩
  case round =>
    obtain ⟨k, z, hk, rfl, rfl, hkk, hb, HB⟩ := hrel
    by_cases hlt : k < l0 + 1
    · have HBS := Lib.hid (best_step HB.out)
      obtain ⟨d1, hd1⟩ : ∃ d, cutv P (lds (x0.take k)) = d := ⟨_, rfl⟩
      obtain ⟨d2, hd2⟩ : ∃ d, cutv Q (lds (x0.drop k)) = d := ⟨_, rfl⟩
      have hdiv : divAt P Q (lds x0) k = max d1 d2 := by
        unfold divAt
        rw [← hd1, ← hd2]
        unfold lds
        rw [List.map_take, List.map_drop]
      rw [hdiv] at HBS
      have hd1b : d1 ≤ 17574594000000000 := by
        have h := cutv_le P (lds (x0.take k))
        rw [hd1] at h
        have h2 := lds_sum (x0.take k) (x0.take k).length
        rw [List.take_of_length_le (by rw [lds_len]; exact Nat.le_refl _), List.length_take] at h2
        have := HLEN.out
        omega
      have hd2b : d2 ≤ 17574594000000000 := by
        have h := cutv_le Q (lds (x0.drop k))
        rw [hd2] at h
        have h2 := lds_sum (x0.drop k) (x0.drop k).length
        rw [List.take_of_length_le (by rw [lds_len]; exact Nat.le_refl _), List.length_drop] at h2
        have := HLEN.out
        omega
      have HD1 := Lib.hid hd1
      have HD2 := Lib.hid hd2
      have HT1 := Lib.hid (show (x0.take k).length ≤ 17592186044416 by rw [List.length_take]; have := HLEN.out; omega)
      have HT2 := Lib.hid (show (x0.drop k).length ≤ 17592186044416 by rw [List.length_drop]; have := HLEN.out; omega)
      have y1 : IntKind.i64.wrap (1 + (P : Int) - 1) = (P : Int) := by rw [IntWalk.i64_in _ (by omega)]; omega
      have y2 : IntKind.i64.wrap (1 + (Q : Int) - 1) = (Q : Int) := by rw [IntWalk.i64_in _ (by omega)]; omega
      have y3 : IntKind.i64.wrap (P : Int) = (P : Int) := IntWalk.i64_in _ (by omega)
      have y4 : IntKind.i64.wrap (Q : Int) = (Q : Int) := IntWalk.i64_in _ (by omega)
      have HPm := Lib.hid (show (P : Int) % 10 = (P : Int) by omega)
      have HQm := Lib.hid (show (Q : Int) % 10 = (Q : Int) by omega)
      have R_w : Ro wr.drew (.slice A0 l0 c0) x0 := B_v0.out.below (Below.drew hb)
      have HRW := Lib.hid R_w
      clear R_w hd1 hd2 hdiv HB
      have ht0 : l0 = 0 → (x0.take k).length = 0 := fun h => by rw [List.length_take, ← HL0.out]; omega
      have hdr0 : l0 = 0 → (x0.drop k).length = 0 := fun h => by rw [List.length_drop, ← HL0.out]; omega
      have hV : ∃ V1 V2, Hid (Ro wr.drew V1 (x0.take k)) ∧ Hid (Ro wr.drew V2 (x0.drop k)) ∧ Hid ((∃ a, A0 = some a ∧ l0 = 0 ∧ c0 = 0 ∧ k = 0 ∧ V1 = .slice (some a) 0 0 ∧ V2 = .slice (some a) 0 0) ∨ (∃ a, A0 = some a ∧ l0 = 0 ∧ c0 ≠ 0 ∧ k = 0 ∧ V1 = .slice (some a) 0 c0 ∧ V2 = .slice (some (a.add 0)) 0 c0) ∨ (A0 = none ∧ l0 = 0 ∧ k = 0 ∧ V1 = .slice none 0 c0 ∧ V2 = .slice none 0 c0) ∨
          (∃ b off, A0 = some ⟨b, off, none⟩ ∧ 0 < l0 ∧ c0 = k ∧ l0 = k ∧ V1 = .slice (some ⟨b, off, none⟩) k k ∧ V2 = .slice (some ⟨b, off, none⟩) 0 0) ∨ (∃ b off, A0 = some ⟨b, off, none⟩ ∧ 0 < l0 ∧ c0 ≠ k ∧ V1 = .slice (some ⟨b, off, none⟩) k c0 ∧ V2 = .slice (some ⟨b, off + k, none⟩) (l0 - k) (c0 - k))) := by
        rcases HSH.out with ⟨a, e, h⟩ | ⟨e, h⟩ | ⟨b, off, e, h⟩
        · by_cases hc : c0 = 0
          · exact ⟨_, _, ro_none _ _ _ (Nat.zero_le _) (ht0 h), ro_none _ _ _ (Nat.zero_le _) (hdr0 h), .inl ⟨a, e, h, hc, by omega, rfl, rfl⟩⟩
          · exact ⟨_, _, ro_none _ _ _ HCM.out (ht0 h), ro_none _ _ _ HCM.out (hdr0 h), .inr (.inl ⟨a, e, h, hc, by omega, rfl, rfl⟩)⟩
        · exact ⟨_, _, ro_none _ _ _ HCM.out (ht0 h), ro_none _ _ _ HCM.out (hdr0 h), .inr (.inr (.inl ⟨e, h, by omega, rfl, rfl⟩))⟩
        · subst e
          by_cases hc : c0 = k
          · refine ⟨_, _, ?_, ro_none _ _ 0 (Nat.zero_le _) (by rw [List.length_drop, ← HL0.out]; omega), .inr (.inr (.inr (.inl ⟨b, off, rfl, h, hc, by omega, rfl, rfl⟩)))⟩
            have h2 := HRW.out.takeAt (i := k) (by omega)
            rwa [hc] at h2
          · have h2 := HRW.out.dropAt (i := k) (by omega)
            rw [if_neg hc] at h2
            exact ⟨_, _, HRW.out.takeAt (i := k) (by omega), h2, .inr (.inr (.inr (.inr ⟨b, off, rfl, h, hc, rfl, rfl⟩)))⟩
      obtain ⟨V1, V2, RT, RD, hVV⟩ := hV
      clear ht0 hdr0 HRW HSH HCM
      obtain ⟨D, hD⟩ : ∃ D : Nat, D = max d1 d2 := ⟨_, rfl⟩
      rw [← hD] at HBS
      have HD := Lib.hid (show max (d1 : Int) (d2 : Int) = (D : Int) by omega)
      have hDb : D ≤ 17574594000000000 := by omega
      clear hD
      rcases hVV.out with ⟨a, rfl, rfl, rfl, rfl, rfl, rfl⟩ | ⟨a, rfl, rfl, hcz, rfl, rfl, rfl⟩ | ⟨rfl, rfl, rfl, rfl, rfl⟩ | ⟨b, off, rfl, hl1p, rfl, rfl, rfl, rfl⟩ | ⟨b, off, rfl, hl1p, hcq, rfl, rfl⟩
      all_goals clear hVV
      all_goals
        go_wp2_with fail
        go_region_with ((first
          | (go_at_call 13; refine (cut_val _ (x0.drop _) (Q : Int) Q _ (RD.out.below b2) HT2.out HQm.out d2 HD2.out).mono ?_; rintro e W3 ⟨rfl, b3⟩)
          | (go_at_call 13; refine (cut_val _ (x0.take _) (P : Int) P _ RT.out HT1.out HPm.out d1 HD1.out).mono ?_; rintro e W2 ⟨rfl, b2⟩)))
      all_goals
        rw [HD.out]
        have hb3 : Below w.heap.size w W3 := ((Below.drew hb).trans (b2.mono hb.size)).trans (b3.mono (Nat.le_trans hb.size b2.size))
        clear y1 y2 y3 y4 b2 b3 RT RD HD hb
        by_cases hz : z < 0
        · have hn0 := HBS.out
          rw [if_pos (.inl hz)] at hn0
          have HN := Lib.hid hn0
          clear hn0 HBS
          go_wp2_with fail
          go_roundg (gk - 1)
          case measure => omega
          case rel => exact ⟨_, _, by omega, rfl, by go_num, by omega, hb3, HN.out⟩
        · by_cases hlt2 : (D : Int) < z
          · have hn0 := HBS.out
            rw [if_pos (.inr hlt2)] at hn0
            have HN := Lib.hid hn0
            clear hn0 HBS
            go_wp2_with fail
            go_roundg (gk - 1)
            case measure => omega
            case rel => exact ⟨_, _, by omega, rfl, by go_num, by omega, hb3, HN.out⟩
          · have hn0 := HBS.out
            rw [if_neg (by omega)] at hn0
            have HN := Lib.hid hn0
            clear hn0 HBS
            go_wp2_with fail
            go_roundg (gk - 1)
            case measure => omega
            case rel => exact ⟨_, _, by omega, rfl, by go_num, by omega, hb3, HN.out⟩
    · obtain rfl : k = l0 + 1 := by omega
      have hzc : z = (c : Int) := by
        have h := HB.out
        rw [HL0.out, ← lds_len] at h
        refine best_end h ?_
        rw [show P + 1 + (Q + 1) = P + Q + 1 + 1 by omega, ← HC.out]
        exact cutv_is _ _
      subst hzc
      go_wp2_with fail
      refine (works_any _).mono ?_
      rintro e W5 ⟨rfl, b5⟩
      go_wp2_with fail
      go_ret
      exact ⟨rfl, hb.trans (b5.mono hb.size)⟩

end Go.Proofs.Ytpkdjdofbedncaa

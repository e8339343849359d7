/-
  What is proved here: sort.partialInsertionSort over a relation that comparing and exchanging keep, with a bound on the number of exchanges; condition: fewer than 2^60 elements. Written by wip/gen/ifsmall.py.
-/
import Derived.Test.YtiioojnoggcnmaaIfRel
import Derived.Sort.WalkB12
import Derived.Shelf.SlSortFunc.PartialInsertion
namespace Go.Proofs.Ytiioojnoggcnmaa
open Go.RowKit Go.Sort
set_option linter.unusedVariables false
set_option linter.unusedSectionVars false

section
variable {α : Type} [Inhabited α] {lt : α → α → Bool} {B n : Nat} {R : Nat → World → Array α → Prop} {Ty : TypeId} {rv : Value} {gl gs : Nat} {rl rs : Value}

set_option maxHeartbeats 8000000 in
set_option maxRecDepth 1000000 in
theorem partialInsertionSort_if (K : IfRel Try.prog lt B n R Ty rv gl gs rl rs) (c0 : Nat) (a b : Nat) (za zb : Int) (hza : za = a) (hzb : zb = b) (d : Array α) (W : World) (hR : R c0 W d) (hab : a < b) (hb : b ≤ n) (hn : n < 1152921504606846976) :
    Calls Try.prog 69 #[.iface Ty rv, .int .i64 za, .int .i64 zb] W fun e w' => e = .returned (.bool (Sort.partialInsertionSort lt d a b).2) ∧ R (c0 + 5 * (n + 1)) w' (Sort.partialInsertionSort lt d a b).1 ∧ Past B W w' := by
  subst hza hzb
  obtain ⟨hB, hds⟩ := K.size hR
  have eL := K.eL
  have eS := K.eS
  have HK := Lib.hid K
  have HR1 := Lib.hid hR
  clear K hR
  go_enter Try.func69, Try.ntmps69
  go_wp2
  go_loopg [7, 8] 5 (fun g1 vi vs wr => ∃ (i s : Nat) (dk : Array α), vi = .int .i64 i ∧ vs = .int .i64 s ∧ s ≤ 5 ∧ 5 - s ≤ g1 ∧ a < i ∧ i ≤ b ∧ Hid (R (c0 + s * (n + 1)) wr dk) ∧ Hid (Past B W wr) ∧ Hid (partialIns lt a b (5 - s) i dk = partialIns lt a b 5 (a + 1) d))
  case atStart => exact ⟨a + 1, 0, d, by go_num, rfl, by omega, by omega, by omega, by omega, HK.out.more HR1.out (by omega), Past.refl _ _, rfl⟩
  case round =>
    obtain ⟨i, s, dk, rfl, rfl, hs5, hg1, hai, hib, HR, HP, HO⟩ := hrel
    clear HR1
    have HQL : Hid (c0 + s * (n + 1) ≤ c0 + 5 * (n + 1)) := Nat.add_le_add_left (Nat.mul_le_mul_right _ hs5) _
    by_cases hs : s < 5
    · have hsz5 : (s : Int) < 5 := by omega
      obtain ⟨p, hp⟩ : ∃ p, p = c0 + s * (n + 1) := ⟨_, rfl⟩
      have HQ : Hid (p + (n + 1) ≤ c0 + (s + 1) * (n + 1)) := by show _ ≤ _; rw [hp, Nat.succ_mul]; omega
      rw [← hp] at HR HQL
      clear hp
      go_wp2
      go_loopg [7] (b - i) (fun g2 vi wr2 => ∃ (kx : Nat), vi = .int .i64 kx ∧ i ≤ kx ∧ kx ≤ b ∧ b - kx ≤ g2 ∧ Hid (R p wr2 dk) ∧ Hid (Past B W wr2) ∧ Hid (scanSorted lt dk b kx = scanSorted lt dk b i))
      case atStart => exact ⟨i, rfl, Nat.le_refl _, hib, Nat.le_refl _, HR.out, HP.out, rfl⟩
      case round =>
        clear HR HP
        obtain ⟨kx, rfl, hik, hkb, hg2, HRs, HPs, HSc⟩ := hrel
        by_cases hkb' : kx < b
        · have hkz : (kx : Int) < (b : Int) := by omega
          have mL := HK.out.mL HRs.out
          have HL := Lib.hid (HK.out.less kx (kx - 1) (kx : Int) ((kx : Int) - 1) HRs.out (by omega) (by omega) (by omega) (by omega))
          cases hlv : lt dk[kx]! dk[kx - 1]! with
          | false =>
            rw [hlv] at HL
            go_wp2_with (go_at_fn gl; refine HL.out.mono ?_; rintro e w1 ⟨rfl, hR1, hP1⟩)
            have HRn := Lib.hid hR1
            have HPn := Lib.hid (HPs.out.trans hP1)
            clear hR1 hP1
            go_roundg (b - (kx + 1))
            case measure => omega
            case rel => exact ⟨kx + 1, by go_num, by omega, by omega, Nat.le_refl _, HRn.out, HPn.out, (show scanSorted lt dk b (kx + 1) = _ from by rw [← HSc.out, scanSorted_go lt dk b kx hkb' hlv])⟩
          | true =>
            rw [hlv] at HL
            have HKX : Hid (scanSorted lt dk b i = kx) := by show _ = _; rw [← HSc.out, scanSorted_stop lt dk b kx (Or.inr hlv)]
            have hkne : ((kx : Int) == (b : Int)) = false := beq_eq_false_iff_ne.2 (by omega)
            by_cases h50 : b - a < 50
            · have h50z : (b : Int) - (a : Int) < 50 := by omega
              go_wp2_with (go_at_fn gl; refine HL.out.mono ?_; rintro e w1 ⟨rfl, hR1, hP1⟩)
              have hv : Sort.partialInsertionSort lt d a b = (dk, false) := by
                unfold Sort.partialInsertionSort
                rw [← HO.out, pi_short lt a b s i dk hs (by rw [HKX.out]; omega) h50]
              have HRn := Lib.hid hR1
              have HPn := Lib.hid (HPs.out.trans hP1)
              go_ret
              exact ⟨by rw [hv]; rfl, by rw [hv]; exact HK.out.more HRn.out (by have := HQL.out; omega), HPn.out⟩
            · have h50z : ¬ ((b : Int) - (a : Int) < 50) := by omega
              by_cases hka : kx - a ≥ 2
              · have hkaz : (2 : Int) ≤ (kx : Int) - (a : Int) := by omega
                go_wp2_with (go_at_fn gl; refine HL.out.mono ?_; rintro e w1 ⟨rfl, hR1, hP1⟩; have mS := HK.out.mS hR1)
                have HSW := Lib.hid (HK.out.swap kx (kx - 1) (kx : Int) ((kx : Int) - 1) hR1 (by omega) (by omega) (by omega) (by omega))
                go_wp2_with (go_at_fn gs; refine HSW.out.mono ?_; rintro e w2 ⟨rfl, hR2, hP2⟩)
                have HR2 := Lib.hid hR2
                have HP2 := Lib.hid ((HPs.out.trans hP1).trans hP2)
                clear hR1 hP1 hR2 hP2 HSW mS
                go_wp2
                go_loopg [9] (kx - 1) (fun g3 vj wr3 => ∃ (j : Nat) (dj : Array α), vj = .int .i64 j ∧ j ≤ kx - 1 ∧ j ≤ g3 ∧ Hid (R (p + 1 + (kx - 1 - j)) wr3 dj) ∧ Hid (Past B W wr3) ∧ Hid (shiftDown lt j dj = shiftDown lt (kx - 1) (swp dk kx (kx - 1))))
                case atStart => exact ⟨kx - 1, (swp dk kx (kx - 1)), by congr 1; omega, Nat.le_refl _, Nat.le_refl _, HK.out.more HR2.out (by omega), HP2.out, rfl⟩
                case round =>
                  clear HR2 HP2
                  obtain ⟨j, dj, rfl, hjk, hg3, HRj, HPj, HDn⟩ := hrel
                  by_cases hj1 : 1 ≤ j
                  · have hj1z : (1 : Int) ≤ (j : Int) := by omega
                    have mL := HK.out.mL HRj.out
                    have HL := Lib.hid (HK.out.less j (j - 1) (j : Int) ((j : Int) - 1) HRj.out (by omega) (by omega) (by omega) (by omega))
                    cases hlv2 : lt dj[j]! dj[j - 1]! with
                    | true =>
                      rw [hlv2] at HL
                      go_wp2_with (go_at_fn gl; refine HL.out.mono ?_; rintro e w1 ⟨rfl, hR1, hP1⟩; have mS := HK.out.mS hR1)
                      have HSW := Lib.hid (HK.out.swap j (j - 1) (j : Int) ((j : Int) - 1) hR1 (by omega) (by omega) (by omega) (by omega))
                      go_wp2_with (go_at_fn gs; refine HSW.out.mono ?_; rintro e w2 ⟨rfl, hR2, hP2⟩)
                      have HRn := Lib.hid hR2
                      have HPn := Lib.hid ((HPj.out.trans hP1).trans hP2)
                      clear hR1 hP1 hR2 hP2 HSW mS
                      go_roundg (j - 1)
                      case measure => omega
                      case rel => exact ⟨j - 1, swp dj j (j - 1), by congr 1; omega, by omega, Nat.le_refl _, HK.out.more HRn.out (by omega), HPn.out, (show shiftDown lt (j - 1) _ = _ from by rw [← HDn.out, shiftDown_go lt j dj hj1 hlv2])⟩
                    | false =>
                      rw [hlv2] at HL
                      have HD : Hid (fixDown lt a kx (swp dk kx (kx - 1)) = dj) := by show _ = _; unfold fixDown; rw [if_pos hka, ← HDn.out, shiftDown_stop lt j dj (Or.inr hlv2)]
                      by_cases hbk : b - kx ≥ 2
                      · have hbkz : (2 : Int) ≤ (b : Int) - (kx : Int) := by omega
                        go_wp2_with (go_at_fn gl; refine HL.out.mono ?_; rintro e w1 ⟨rfl, hR1, hP1⟩)
                        have HRa := Lib.hid hR1
                        have HPa := Lib.hid (HPj.out.trans hP1)
                        clear hR1 hP1
                        go_wp2
                        go_loopg [10] (b - (kx + 1)) (fun g4 vj wr4 => ∃ (ju : Nat) (du : Array α), vj = .int .i64 ju ∧ kx + 1 ≤ ju ∧ ju ≤ b ∧ b - ju ≤ g4 ∧ Hid (R (p + kx + (ju - (kx + 1))) wr4 du) ∧ Hid (Past B W wr4) ∧ Hid (shiftUp lt b ju du = shiftUp lt b (kx + 1) dj))
                        case atStart => exact ⟨kx + 1, dj, by go_num, Nat.le_refl _, by omega, Nat.le_refl _, HK.out.more HRa.out (by omega), HPa.out, rfl⟩
                        case round =>
                          obtain ⟨ju, du, rfl, hkj, hjb, hg4, HRu, HPu, HU⟩ := hrel
                          by_cases hjb' : ju < b
                          · have hjz : (ju : Int) < (b : Int) := by omega
                            have mL := HK.out.mL HRu.out
                            have HL := Lib.hid (HK.out.less ju (ju - 1) (ju : Int) ((ju : Int) - 1) HRu.out (by omega) (by omega) (by omega) (by omega))
                            cases hlv3 : lt du[ju]! du[ju - 1]! with
                            | true =>
                              rw [hlv3] at HL
                              go_wp2_with (go_at_fn gl; refine HL.out.mono ?_; rintro e w1 ⟨rfl, hR1, hP1⟩; have mS := HK.out.mS hR1)
                              have HSW := Lib.hid (HK.out.swap ju (ju - 1) (ju : Int) ((ju : Int) - 1) hR1 (by omega) (by omega) (by omega) (by omega))
                              go_wp2_with (go_at_fn gs; refine HSW.out.mono ?_; rintro e w2 ⟨rfl, hR2, hP2⟩)
                              have HRn := Lib.hid hR2
                              have HPn := Lib.hid ((HPu.out.trans hP1).trans hP2)
                              clear hR1 hP1 hR2 hP2 HSW mS
                              go_roundg (b - (ju + 1))
                              case measure => omega
                              case rel => exact ⟨ju + 1, swp du ju (ju - 1), by go_num, by omega, by omega, Nat.le_refl _, HK.out.more HRn.out (by omega), HPn.out, (show shiftUp lt b (ju + 1) _ = _ from by rw [← HU.out, shiftUp_go lt b ju du hjb' hlv3])⟩
                            | false =>
                              rw [hlv3] at HL
                              go_wp2_with (go_at_fn gl; refine HL.out.mono ?_; rintro e w1 ⟨rfl, hR1, hP1⟩)
                              have HRn := Lib.hid hR1
                              have HPn := Lib.hid (HPu.out.trans hP1)
                              clear hR1 hP1
                              go_roundg (5 - (s + 1))
                              case measure => omega
                              case rel => exact ⟨kx, s + 1, du, rfl, by go_num, by omega, Nat.le_refl _, by omega, by omega, HK.out.more HRn.out (by have := HQ.out; omega), HPn.out, (show partialIns lt a b (5 - (s + 1)) kx du = _ from by rw [← HO.out, pi_go lt a b s i kx dk hs HKX.out (by omega) h50, HD.out, show fixUp lt b kx dj = du from by unfold fixUp; rw [if_pos hbk, ← HU.out, shiftUp_stop lt b ju du (Or.inr hlv3)]])⟩
                          · have hjz : ¬ (ju : Int) < (b : Int) := by omega
                            go_wp2
                            go_roundg (5 - (s + 1))
                            case measure => omega
                            case rel => exact ⟨kx, s + 1, du, rfl, by go_num, by omega, Nat.le_refl _, by omega, by omega, HK.out.more HRu.out (by have := HQ.out; omega), HPu.out, (show partialIns lt a b (5 - (s + 1)) kx du = _ from by rw [← HO.out, pi_go lt a b s i kx dk hs HKX.out (by omega) h50, HD.out, show fixUp lt b kx dj = du from by unfold fixUp; rw [if_pos hbk, ← HU.out, shiftUp_stop lt b ju du (Or.inl hjb')]])⟩
                      · have hbkz : ¬ (2 : Int) ≤ (b : Int) - (kx : Int) := by omega
                        go_wp2_with (go_at_fn gl; refine HL.out.mono ?_; rintro e w1 ⟨rfl, hR1, hP1⟩)
                        have HRa := Lib.hid hR1
                        have HPa := Lib.hid (HPj.out.trans hP1)
                        clear hR1 hP1
                        go_wp2
                        go_roundg (5 - (s + 1))
                        case measure => omega
                        case rel => exact ⟨kx, s + 1, dj, rfl, by go_num, by omega, Nat.le_refl _, by omega, by omega, HK.out.more HRa.out (by have := HQ.out; omega), HPa.out, (show partialIns lt a b (5 - (s + 1)) kx dj = _ from by rw [← HO.out, pi_go lt a b s i kx dk hs HKX.out (by omega) h50, HD.out, show fixUp lt b kx dj = dj from by unfold fixUp; rw [if_neg hbk]])⟩
                  · have hj1z : ¬ (1 : Int) ≤ (j : Int) := by omega
                    have HD : Hid (fixDown lt a kx (swp dk kx (kx - 1)) = dj) := by show _ = _; unfold fixDown; rw [if_pos hka, ← HDn.out, shiftDown_stop lt j dj (Or.inl (by omega))]
                    by_cases hbk : b - kx ≥ 2
                    · have hbkz : (2 : Int) ≤ (b : Int) - (kx : Int) := by omega
                      go_wp2
                      go_loopg [10] (b - (kx + 1)) (fun g4 vj wr4 => ∃ (ju : Nat) (du : Array α), vj = .int .i64 ju ∧ kx + 1 ≤ ju ∧ ju ≤ b ∧ b - ju ≤ g4 ∧ Hid (R (p + kx + (ju - (kx + 1))) wr4 du) ∧ Hid (Past B W wr4) ∧ Hid (shiftUp lt b ju du = shiftUp lt b (kx + 1) dj))
                      case atStart => exact ⟨kx + 1, dj, by go_num, Nat.le_refl _, by omega, Nat.le_refl _, HK.out.more HRj.out (by omega), HPj.out, rfl⟩
                      case round =>
                        obtain ⟨ju, du, rfl, hkj, hjb, hg4, HRu, HPu, HU⟩ := hrel
                        by_cases hjb' : ju < b
                        · have hjz : (ju : Int) < (b : Int) := by omega
                          have mL := HK.out.mL HRu.out
                          have HL := Lib.hid (HK.out.less ju (ju - 1) (ju : Int) ((ju : Int) - 1) HRu.out (by omega) (by omega) (by omega) (by omega))
                          cases hlv3 : lt du[ju]! du[ju - 1]! with
                          | true =>
                            rw [hlv3] at HL
                            go_wp2_with (go_at_fn gl; refine HL.out.mono ?_; rintro e w1 ⟨rfl, hR1, hP1⟩; have mS := HK.out.mS hR1)
                            have HSW := Lib.hid (HK.out.swap ju (ju - 1) (ju : Int) ((ju : Int) - 1) hR1 (by omega) (by omega) (by omega) (by omega))
                            go_wp2_with (go_at_fn gs; refine HSW.out.mono ?_; rintro e w2 ⟨rfl, hR2, hP2⟩)
                            have HRn := Lib.hid hR2
                            have HPn := Lib.hid ((HPu.out.trans hP1).trans hP2)
                            clear hR1 hP1 hR2 hP2 HSW mS
                            go_roundg (b - (ju + 1))
                            case measure => omega
                            case rel => exact ⟨ju + 1, swp du ju (ju - 1), by go_num, by omega, by omega, Nat.le_refl _, HK.out.more HRn.out (by omega), HPn.out, (show shiftUp lt b (ju + 1) _ = _ from by rw [← HU.out, shiftUp_go lt b ju du hjb' hlv3])⟩
                          | false =>
                            rw [hlv3] at HL
                            go_wp2_with (go_at_fn gl; refine HL.out.mono ?_; rintro e w1 ⟨rfl, hR1, hP1⟩)
                            have HRn := Lib.hid hR1
                            have HPn := Lib.hid (HPu.out.trans hP1)
                            clear hR1 hP1
                            go_roundg (5 - (s + 1))
                            case measure => omega
                            case rel => exact ⟨kx, s + 1, du, rfl, by go_num, by omega, Nat.le_refl _, by omega, by omega, HK.out.more HRn.out (by have := HQ.out; omega), HPn.out, (show partialIns lt a b (5 - (s + 1)) kx du = _ from by rw [← HO.out, pi_go lt a b s i kx dk hs HKX.out (by omega) h50, HD.out, show fixUp lt b kx dj = du from by unfold fixUp; rw [if_pos hbk, ← HU.out, shiftUp_stop lt b ju du (Or.inr hlv3)]])⟩
                        · have hjz : ¬ (ju : Int) < (b : Int) := by omega
                          go_wp2
                          go_roundg (5 - (s + 1))
                          case measure => omega
                          case rel => exact ⟨kx, s + 1, du, rfl, by go_num, by omega, Nat.le_refl _, by omega, by omega, HK.out.more HRu.out (by have := HQ.out; omega), HPu.out, (show partialIns lt a b (5 - (s + 1)) kx du = _ from by rw [← HO.out, pi_go lt a b s i kx dk hs HKX.out (by omega) h50, HD.out, show fixUp lt b kx dj = du from by unfold fixUp; rw [if_pos hbk, ← HU.out, shiftUp_stop lt b ju du (Or.inl hjb')]])⟩
                    · have hbkz : ¬ (2 : Int) ≤ (b : Int) - (kx : Int) := by omega
                      go_wp2
                      go_roundg (5 - (s + 1))
                      case measure => omega
                      case rel => exact ⟨kx, s + 1, dj, rfl, by go_num, by omega, Nat.le_refl _, by omega, by omega, HK.out.more HRj.out (by have := HQ.out; omega), HPj.out, (show partialIns lt a b (5 - (s + 1)) kx dj = _ from by rw [← HO.out, pi_go lt a b s i kx dk hs HKX.out (by omega) h50, HD.out, show fixUp lt b kx dj = dj from by unfold fixUp; rw [if_neg hbk]])⟩
              · have hkaz : ¬ (2 : Int) ≤ (kx : Int) - (a : Int) := by omega
                have HD : Hid (fixDown lt a kx (swp dk kx (kx - 1)) = (swp dk kx (kx - 1))) := by show _ = _; unfold fixDown; rw [if_neg hka]
                by_cases hbk : b - kx ≥ 2
                · have hbkz : (2 : Int) ≤ (b : Int) - (kx : Int) := by omega
                  go_wp2_with (go_at_fn gl; refine HL.out.mono ?_; rintro e w1 ⟨rfl, hR1, hP1⟩; have mS := HK.out.mS hR1)
                  have HSW := Lib.hid (HK.out.swap kx (kx - 1) (kx : Int) ((kx : Int) - 1) hR1 (by omega) (by omega) (by omega) (by omega))
                  go_wp2_with (go_at_fn gs; refine HSW.out.mono ?_; rintro e w2 ⟨rfl, hR2, hP2⟩)
                  have HR2 := Lib.hid hR2
                  have HP2 := Lib.hid ((HPs.out.trans hP1).trans hP2)
                  clear hR1 hP1 hR2 hP2 HSW mS
                  go_wp2
                  go_loopg [10] (b - (kx + 1)) (fun g4 vj wr4 => ∃ (ju : Nat) (du : Array α), vj = .int .i64 ju ∧ kx + 1 ≤ ju ∧ ju ≤ b ∧ b - ju ≤ g4 ∧ Hid (R (p + kx + (ju - (kx + 1))) wr4 du) ∧ Hid (Past B W wr4) ∧ Hid (shiftUp lt b ju du = shiftUp lt b (kx + 1) (swp dk kx (kx - 1))))
                  case atStart => exact ⟨kx + 1, (swp dk kx (kx - 1)), by go_num, Nat.le_refl _, by omega, Nat.le_refl _, HK.out.more HR2.out (by omega), HP2.out, rfl⟩
                  case round =>
                    obtain ⟨ju, du, rfl, hkj, hjb, hg4, HRu, HPu, HU⟩ := hrel
                    by_cases hjb' : ju < b
                    · have hjz : (ju : Int) < (b : Int) := by omega
                      have mL := HK.out.mL HRu.out
                      have HL := Lib.hid (HK.out.less ju (ju - 1) (ju : Int) ((ju : Int) - 1) HRu.out (by omega) (by omega) (by omega) (by omega))
                      cases hlv3 : lt du[ju]! du[ju - 1]! with
                      | true =>
                        rw [hlv3] at HL
                        go_wp2_with (go_at_fn gl; refine HL.out.mono ?_; rintro e w1 ⟨rfl, hR1, hP1⟩; have mS := HK.out.mS hR1)
                        have HSW := Lib.hid (HK.out.swap ju (ju - 1) (ju : Int) ((ju : Int) - 1) hR1 (by omega) (by omega) (by omega) (by omega))
                        go_wp2_with (go_at_fn gs; refine HSW.out.mono ?_; rintro e w2 ⟨rfl, hR2, hP2⟩)
                        have HRn := Lib.hid hR2
                        have HPn := Lib.hid ((HPu.out.trans hP1).trans hP2)
                        clear hR1 hP1 hR2 hP2 HSW mS
                        go_roundg (b - (ju + 1))
                        case measure => omega
                        case rel => exact ⟨ju + 1, swp du ju (ju - 1), by go_num, by omega, by omega, Nat.le_refl _, HK.out.more HRn.out (by omega), HPn.out, (show shiftUp lt b (ju + 1) _ = _ from by rw [← HU.out, shiftUp_go lt b ju du hjb' hlv3])⟩
                      | false =>
                        rw [hlv3] at HL
                        go_wp2_with (go_at_fn gl; refine HL.out.mono ?_; rintro e w1 ⟨rfl, hR1, hP1⟩)
                        have HRn := Lib.hid hR1
                        have HPn := Lib.hid (HPu.out.trans hP1)
                        clear hR1 hP1
                        go_roundg (5 - (s + 1))
                        case measure => omega
                        case rel => exact ⟨kx, s + 1, du, rfl, by go_num, by omega, Nat.le_refl _, by omega, by omega, HK.out.more HRn.out (by have := HQ.out; omega), HPn.out, (show partialIns lt a b (5 - (s + 1)) kx du = _ from by rw [← HO.out, pi_go lt a b s i kx dk hs HKX.out (by omega) h50, HD.out, show fixUp lt b kx (swp dk kx (kx - 1)) = du from by unfold fixUp; rw [if_pos hbk, ← HU.out, shiftUp_stop lt b ju du (Or.inr hlv3)]])⟩
                    · have hjz : ¬ (ju : Int) < (b : Int) := by omega
                      go_wp2
                      go_roundg (5 - (s + 1))
                      case measure => omega
                      case rel => exact ⟨kx, s + 1, du, rfl, by go_num, by omega, Nat.le_refl _, by omega, by omega, HK.out.more HRu.out (by have := HQ.out; omega), HPu.out, (show partialIns lt a b (5 - (s + 1)) kx du = _ from by rw [← HO.out, pi_go lt a b s i kx dk hs HKX.out (by omega) h50, HD.out, show fixUp lt b kx (swp dk kx (kx - 1)) = du from by unfold fixUp; rw [if_pos hbk, ← HU.out, shiftUp_stop lt b ju du (Or.inl hjb')]])⟩
                · exfalso; omega
        · obtain rfl : kx = b := by omega
          have hkz : ¬ (kx : Int) < (kx : Int) := by omega
          go_wp2
          have hv : Sort.partialInsertionSort lt d a kx = (dk, true) := by
            unfold Sort.partialInsertionSort
            rw [← HO.out, pi_true lt a kx s i dk hs (by rw [← HSc.out, scanSorted_stop lt dk kx kx (Or.inl (by omega))])]
          go_ret
          exact ⟨by rw [hv]; rfl, by rw [hv]; exact HK.out.more HRs.out (by have := HQL.out; omega), HPs.out⟩
    · obtain rfl : s = 5 := by omega
      go_wp2
      have hv : Sort.partialInsertionSort lt d a b = (dk, false) := by
        unfold Sort.partialInsertionSort
        rw [← HO.out, pi_end]
      go_ret
      exact ⟨by rw [hv]; rfl, by rw [hv]; exact HK.out.more HR.out (by have := HQL.out; omega), HP.out⟩

end

end Go.Proofs.Ytiioojnoggcnmaa

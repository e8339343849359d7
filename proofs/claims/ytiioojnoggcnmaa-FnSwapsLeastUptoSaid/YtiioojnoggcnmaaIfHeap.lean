/-
  What is proved here: sort.siftDown and sort.heapSort over a relation that comparing and exchanging keep, with a bound on the number of exchanges; condition: fewer than 2^60 elements. Written by wip/gen/ifheap.py.
-/
import Derived.Test.YtiioojnoggcnmaaIfRel
import Derived.Sort.WalkB2
import Derived.Sort.WalkB3
namespace Go.Proofs.Ytiioojnoggcnmaa
open Go.RowKit Go.Sort
set_option linter.unusedVariables false
set_option linter.unusedSectionVars false

section
variable {α : Type} [Inhabited α] {lt : α → α → Bool} {B n : Nat} {R : Nat → World → Array α → Prop} {Ty : TypeId} {rv : Value} {gl gs : Nat} {rl rs : Value}

set_option maxHeartbeats 4000000 in
set_option maxRecDepth 1000000 in
theorem siftDown_if (K : IfRel Try.prog lt B n R Ty rv gl gs rl rs) (c0 : Nat) (lo hi first : Nat) (zl zh zf : Int) (hzl : zl = lo) (hzh : zh = hi) (hzf : zf = first) (d : Array α) (W : World) (hR : R c0 W d) (hlo : lo ≤ hi) (hb : first + hi ≤ n) (hn : n < 1152921504606846976) :
    Calls Try.prog 91 #[.iface Ty rv, .int .i64 zl, .int .i64 zh, .int .i64 zf] W (TurnedI B R (c0 + (hi - lo)) (fun d' => d' = siftDown lt hi first lo d) W) := by
  subst hzl hzh hzf
  obtain ⟨hB, hds⟩ := K.size hR
  have eL := K.eL
  have eS := K.eS
  have HK := Lib.hid K
  have HR1 := Lib.hid hR
  clear K hR
  go_enter Try.func91, Try.ntmps91
  go_wp2
  go_loopg [8] (hi - lo) (fun kx s8 wr => ∃ (root : Nat) (dk : Array α), s8 = .int .i64 root ∧ root ≤ hi ∧ lo ≤ root ∧ hi - root ≤ kx ∧ Hid (R (c0 + (root - lo)) wr dk) ∧ Hid (Past B W wr) ∧ Hid (siftDown lt hi first root dk = siftDown lt hi first lo d))
  case atStart => exact ⟨lo, d, rfl, hlo, Nat.le_refl _, Nat.le_refl _, HK.out.more HR1.out (by omega), Past.refl _ _, rfl⟩
  case round =>
    obtain ⟨root, dk, rfl, hr, hlr, hkx, HR, HP, HE⟩ := hrel
    clear HR1
    by_cases h0 : hi ≤ 2 * root + 1
    · have h0z : (hi : Int) ≤ 2 * (root : Int) + 1 := by omega
      go_wp2
      go_end0
      exact ⟨rfl, dk, by rw [← HE.out, sd_end lt dk h0], HK.out.more HR.out (by omega), HP.out⟩
    · have h0z : ¬ ((hi : Int) ≤ 2 * (root : Int) + 1) := by omega
      by_cases h1 : 2 * root + 2 < hi
      · have h1z : 2 * (root : Int) + 1 + 1 < (hi : Int) := by omega
        have mL1 := HK.out.mL HR.out
        have HL1 := Lib.hid (HK.out.less (first + (2 * root + 1)) (first + (2 * root + 2)) ((first : Int) + (2 * (root : Int) + 1)) ((first : Int) + (2 * (root : Int) + 1) + 1) HR.out (by omega) (by omega) (by omega) (by omega))
        cases hL : lt dk[first + (2 * root + 1)]! dk[first + (2 * root + 2)]! with
        | true =>
          rw [hL] at HL1
          go_wp2_with (go_at_fn gl; refine HL1.out.mono ?_; rintro e w1 ⟨rfl, hR1, hP1⟩; have mL2 := HK.out.mL hR1)
          have HRa := Lib.hid hR1
          have HPa := Lib.hid (HP.out.trans hP1)
          clear hR1 hP1 mL1 HL1
          have HL2 := Lib.hid (HK.out.less (first + root) (first + (2 * root + 2)) ((first : Int) + (root : Int)) ((first : Int) + (2 * (root : Int) + 1 + 1)) HRa.out (by omega) (by omega) (by omega) (by omega))
          cases hG : lt dk[first + root]! dk[first + (2 * root + 2)]! with
          | true =>
            rw [hG] at HL2
            go_wp2_with (go_at_fn gl; refine HL2.out.mono ?_; rintro e w2 ⟨rfl, hR2, hP2⟩; have mS2 := HK.out.mS hR2)
            have HSW := Lib.hid (HK.out.swap (first + root) (first + (2 * root + 2)) ((first : Int) + (root : Int)) ((first : Int) + (2 * (root : Int) + 1 + 1)) hR2 (by omega) (by omega) (by omega) (by omega))
            go_wp2_with (go_at_fn gs; refine HSW.out.mono ?_; rintro e w3 ⟨rfl, hR3, hP3⟩)
            have HRn := Lib.hid (HK.out.more hR3 (show c0 + (root - lo) + 1 ≤ c0 + ((2 * root + 2) - lo) by omega))
            have HPn := Lib.hid ((HPa.out.trans hP2).trans hP3)
            clear hR2 hP2 hR3 hP3 HSW HL2 mL2 mS2
            go_roundg (hi - (2 * root + 2))
            case measure => omega
            case rel => exact ⟨(2 * root + 2), swp dk (first + root) (first + (2 * root + 2)), by go_num, by omega, by omega, Nat.le_refl _, HRn.out, HPn.out, (show siftDown lt hi first _ _ = _ from by rw [← HE.out, sd_right_go lt dk h1 hL hG])⟩
          | false =>
            rw [hG] at HL2
            go_wp2_with (go_at_fn gl; refine HL2.out.mono ?_; rintro e w2 ⟨rfl, hR2, hP2⟩)
            (try simp only [Exit.inBlock, Exit.then]); refine bodyPost_ret (results_none rfl _ _ _) rfl ?_
            exact ⟨rfl, dk, by rw [← HE.out, sd_right_stop lt dk h1 hL hG], HK.out.more hR2 (by omega), HPa.out.trans hP2⟩
        | false =>
          rw [hL] at HL1
          go_wp2_with (go_at_fn gl; refine HL1.out.mono ?_; rintro e w1 ⟨rfl, hR1, hP1⟩; have mL2 := HK.out.mL hR1)
          have HRa := Lib.hid hR1
          have HPa := Lib.hid (HP.out.trans hP1)
          clear hR1 hP1 mL1 HL1
          have HL2 := Lib.hid (HK.out.less (first + root) (first + (2 * root + 1)) ((first : Int) + (root : Int)) ((first : Int) + (2 * (root : Int) + 1)) HRa.out (by omega) (by omega) (by omega) (by omega))
          cases hG : lt dk[first + root]! dk[first + (2 * root + 1)]! with
          | true =>
            rw [hG] at HL2
            go_wp2_with (go_at_fn gl; refine HL2.out.mono ?_; rintro e w2 ⟨rfl, hR2, hP2⟩; have mS2 := HK.out.mS hR2)
            have HSW := Lib.hid (HK.out.swap (first + root) (first + (2 * root + 1)) ((first : Int) + (root : Int)) ((first : Int) + (2 * (root : Int) + 1)) hR2 (by omega) (by omega) (by omega) (by omega))
            go_wp2_with (go_at_fn gs; refine HSW.out.mono ?_; rintro e w3 ⟨rfl, hR3, hP3⟩)
            have HRn := Lib.hid (HK.out.more hR3 (show c0 + (root - lo) + 1 ≤ c0 + ((2 * root + 1) - lo) by omega))
            have HPn := Lib.hid ((HPa.out.trans hP2).trans hP3)
            clear hR2 hP2 hR3 hP3 HSW HL2 mL2 mS2
            go_roundg (hi - (2 * root + 1))
            case measure => omega
            case rel => exact ⟨(2 * root + 1), swp dk (first + root) (first + (2 * root + 1)), by go_num, by omega, by omega, Nat.le_refl _, HRn.out, HPn.out, (show siftDown lt hi first _ _ = _ from by rw [← HE.out, sd_left_go lt dk (by omega) (fun _ => hL) hG])⟩
          | false =>
            rw [hG] at HL2
            go_wp2_with (go_at_fn gl; refine HL2.out.mono ?_; rintro e w2 ⟨rfl, hR2, hP2⟩)
            (try simp only [Exit.inBlock, Exit.then]); refine bodyPost_ret (results_none rfl _ _ _) rfl ?_
            exact ⟨rfl, dk, by rw [← HE.out, sd_left_stop lt dk (by omega) (fun _ => hL) hG], HK.out.more hR2 (by omega), HPa.out.trans hP2⟩
      · have h1z : ¬ (2 * (root : Int) + 1 + 1 < (hi : Int)) := by omega
        have mL2 := HK.out.mL HR.out
        have HL2 := Lib.hid (HK.out.less (first + root) (first + (2 * root + 1)) ((first : Int) + (root : Int)) ((first : Int) + (2 * (root : Int) + 1)) HR.out (by omega) (by omega) (by omega) (by omega))
        cases hG : lt dk[first + root]! dk[first + (2 * root + 1)]! with
        | true =>
          rw [hG] at HL2
          go_wp2_with (go_at_fn gl; refine HL2.out.mono ?_; rintro e w2 ⟨rfl, hR2, hP2⟩; have mS2 := HK.out.mS hR2)
          have HSW := Lib.hid (HK.out.swap (first + root) (first + (2 * root + 1)) ((first : Int) + (root : Int)) ((first : Int) + (2 * (root : Int) + 1)) hR2 (by omega) (by omega) (by omega) (by omega))
          go_wp2_with (go_at_fn gs; refine HSW.out.mono ?_; rintro e w3 ⟨rfl, hR3, hP3⟩)
          have HRn := Lib.hid (HK.out.more hR3 (show c0 + (root - lo) + 1 ≤ c0 + ((2 * root + 1) - lo) by omega))
          have HPn := Lib.hid ((HP.out.trans hP2).trans hP3)
          clear hR2 hP2 hR3 hP3 HSW HL2 mL2 mS2
          go_roundg (hi - (2 * root + 1))
          case measure => omega
          case rel => exact ⟨(2 * root + 1), swp dk (first + root) (first + (2 * root + 1)), by go_num, by omega, by omega, Nat.le_refl _, HRn.out, HPn.out, (show siftDown lt hi first _ _ = _ from by rw [← HE.out, sd_left_go lt dk (by omega) (fun h => absurd h h1) hG])⟩
        | false =>
          rw [hG] at HL2
          go_wp2_with (go_at_fn gl; refine HL2.out.mono ?_; rintro e w2 ⟨rfl, hR2, hP2⟩)
          (try simp only [Exit.inBlock, Exit.then]); refine bodyPost_ret (results_none rfl _ _ _) rfl ?_
          exact ⟨rfl, dk, by rw [← HE.out, sd_left_stop lt dk (by omega) (fun h => absurd h h1) hG], HK.out.more hR2 (by omega), HP.out.trans hP2⟩

theorem cost_dn {M k H : Nat} (h : k + 1 ≤ M) : (M - (k + 1)) * H + H = (M - k) * H := by
  rw [show M - k = M - (k + 1) + 1 by omega, Nat.succ_mul]

theorem heap_cost {c0 H : Nat} : c0 + ((H - 1) / 2 + 1 - 0) * H ≤ c0 + (H + 1) * H := Nat.add_le_add_left (Nat.mul_le_mul_right _ (by omega)) _

set_option maxHeartbeats 4000000 in
set_option maxRecDepth 1000000 in
theorem heapSort_if (K : IfRel Try.prog lt B n R Ty rv gl gs rl rs) (c0 : Nat) (a b : Nat) (za zb : Int) (hza : za = a) (hzb : zb = b) (d : Array α) (W : World) (hR : R c0 W d) (hab : a ≤ b) (hb : b ≤ n) (hn : n < 1152921504606846976) :
    Calls Try.prog 65 #[.iface Ty rv, .int .i64 za, .int .i64 zb] W (TurnedI B R (c0 + (b - a + 1) * (b - a) + (b - a) * (b - a + 1)) (fun d' => d' = heapSort lt d a b) W) := by
  subst hza hzb
  have ecast : ((b - a : Nat) : Int) = (b : Int) - (a : Int) := by omega
  obtain ⟨hB, hds⟩ := K.size hR
  have eL := K.eL
  have eS := K.eS
  have HK := Lib.hid K
  have HR1 := Lib.hid hR
  clear K hR
  go_enter Try.func65, Try.ntmps65
  go_wp2
  obtain ⟨H, hH⟩ : ∃ H, H = b - a := ⟨_, rfl⟩
  have HH := Lib.hid hH
  have hHb : a + H = b := by omega
  rw [← hH] at ecast
  clear hH
  go_loopg [9] ((H - 1) / 2 + 1) (fun kx s9 wr => s9 = .int .i64 ((kx : Int) - 1) ∧ kx ≤ (H - 1) / 2 + 1 ∧ ∃ (dk : Array α), Hid (R (c0 + ((H - 1) / 2 + 1 - kx) * H) wr dk) ∧ Hid (Past B W wr) ∧
    Hid (heapBuild lt H a kx dk = heapBuild lt H a ((H - 1) / 2 + 1) d))
  case atStart => exact ⟨by rw [HH.out]; rw [half_start hab], Nat.le_refl _, d, HK.out.more HR1.out (by omega), Past.refl _ _, rfl⟩
  case round =>
    obtain ⟨rfl, hkk, dk, HR, HP, HE⟩ := hrel
    clear HR1
    cases gk with
    | zero =>
      have HB : Hid (dk = heapBuild lt H a ((H - 1) / 2 + 1) d) := HE.out
      have HR2 := Lib.hid (HK.out.more HR.out heap_cost)
      clear HE hkk HR
      go_wp2
      go_loopg [10] H (fun kx s10 wr2 => s10 = .int .i64 ((kx : Int) - 1) ∧ kx ≤ H ∧ ∃ (dj : Array α), Hid (R (c0 + (H + 1) * H + (H - kx) * (H + 1)) wr2 dj) ∧ Hid (Past B W wr2) ∧ Hid (heapPop lt a kx dj = heapPop lt a H dk))
      case atStart => exact ⟨by rw [ecast], Nat.le_refl _, dk, HK.out.more HR2.out (by omega), HP.out, rfl⟩
      case round =>
        clear HR2 HP
        obtain ⟨rfl, hkk, dj, HR, HP, HE2⟩ := hrel
        cases gk with
        | zero =>
          go_wp2
          go_end0
          have e : dj = heapSort lt d a b := by rw [heapSort, ← HH.out, ← HB.out, ← HE2.out]; rfl
          exact ⟨rfl, dj, e, HK.out.more HR.out (Nat.le_of_eq (by rw [Nat.sub_zero, HH.out])), HP.out⟩
        | succ kx =>
          have mS := HK.out.mS HR.out
          have HSW := Lib.hid (HK.out.swap a (a + kx) (a : Int) ((a : Int) + (kx : Int)) HR.out (by omega) (by omega) (by omega) (by omega))
          go_wp2_with (go_at_fn gs; refine HSW.out.mono ?_; rintro e w2 ⟨rfl, hR2, hP2⟩)
          have HR2 := Lib.hid hR2
          have HP2 := Lib.hid (HP.out.trans hP2)
          have HCA := Lib.hid (siftDown_if HK.out _ 0 kx a 0 (kx : Int) (a : Int) rfl rfl rfl (swp dj a (a + kx)) w2 hR2 (Nat.zero_le _) (by omega) hn)
          clear hR2 hP2 HSW mS
          go_wp2_with fail
          refine HCA.out.mono ?_
          rintro e w3 ⟨rfl, dn, rfl, hR3, hP3⟩
          have HR3 := Lib.hid (HK.out.more hR3 (show c0 + (H + 1) * H + (H - (kx + 1)) * (H + 1) + 1 + (kx - 0) ≤ c0 + (H + 1) * H + (H - kx) * (H + 1) by rw [← cost_dn hkk]; omega))
          have HP3 := Lib.hid (HP2.out.trans hP3)
          clear hR3 hP3 HCA HP2 HR2
          go_wp2_with fail
          go_roundg kx
          case measure => omega
          case rel => exact ⟨by simp, by omega, siftDown lt kx a 0 (swp dj a (a + kx)), HR3.out, HP3.out, HE2⟩
    | succ kx =>
      have HCA := Lib.hid (siftDown_if HK.out _ kx H a (kx : Int) ((b : Int) - (a : Int)) (a : Int) rfl (by omega) rfl dk wr HR.out (by omega) (by omega) hn)
      go_wp2_with fail
      refine HCA.out.mono ?_
      rintro e w3 ⟨rfl, dn, rfl, hR3, hP3⟩
      have HR3 := Lib.hid (HK.out.more hR3 (show c0 + ((H - 1) / 2 + 1 - (kx + 1)) * H + (H - kx) ≤ c0 + ((H - 1) / 2 + 1 - kx) * H by rw [← cost_dn hkk]; omega))
      have HP3 := Lib.hid (HP.out.trans hP3)
      clear hR3 hP3 HCA
      go_wp2_with fail
      go_roundg kx
      case measure => omega
      case rel => exact ⟨by simp, by omega, siftDown lt H a kx dk, HR3.out, HP3.out, HE⟩

end

end Go.Proofs.Ytiioojnoggcnmaa

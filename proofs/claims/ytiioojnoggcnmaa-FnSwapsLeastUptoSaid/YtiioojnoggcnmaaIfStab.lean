/-
  What is proved here: the stable sort's functions (insertionSort, swapRange, rotate, symMerge, stable) over a relation that comparing and exchanging keep; condition: fewer than 2^60 elements. Written by wip/gen/stab.py.
-/
import Derived.Test.YtiioojnoggcnmaaIfRel
import Derived.Test.YtiioojnoggcnmaaSymPlain
namespace Go.Proofs.Ytiioojnoggcnmaa
open Go.RowKit Go.Sort
set_option linter.unusedVariables false
set_option linter.unusedSectionVars false

section
variable {α : Type} [Inhabited α] {lt : α → α → Bool} {T : α → α → Prop} {B n : Nat} {R : Nat → World → Array α → Prop} {Ty : TypeId} {rv : Value} {gl gs : Nat} {rl rs : Value}

set_option maxHeartbeats 4000000 in
set_option maxRecDepth 100000 in
theorem insertion_if (K : IfRel Try.prog lt B n R Ty rv gl gs rl rs) (c0 : Nat) (a b : Nat) (za zb : Int) (ha : za = a) (hbz : zb = b) (d : Array α) (W : World) (hR : R c0 W d) (hab : a ≤ b) (hb : b ≤ n) (hn : n < 1152921504606846976) :
    Calls Try.prog 64 #[.iface Ty rv, .int .i64 za, .int .i64 zb] W (TurnedI B R (c0 + (b - a) * (b - a)) (fun d' => d' = insertionSort lt d a b) W) := by
  subst ha hbz
  obtain ⟨hB, hds⟩ := K.size hR
  have eL := K.eL
  have eS := K.eS
  have HK := Lib.hid K
  have HR1 : Hid (R c0 W d) := hR
  have HP1 : Hid (Past B W W) := Past.refl _ _
  clear K hR
  go_enter Try.func64, Try.ntmps64
  go_wp2
  go_loopg [6] (b - a) (fun kx s6 wr => ∃ (i : Nat) (dk : Array α), s6 = .int .i64 i ∧ a < i ∧ i ≤ b + 1 ∧ b + 1 - i ≤ kx ∧ Hid (R (c0 + (i - a - 1) * (b - a)) wr dk) ∧ Hid (Past B W wr) ∧ Hid (insOuter lt a b i dk = insOuter lt a b (a + 1) d))
  case atStart => exact ⟨a + 1, d, by go_num, by omega, by omega, by omega, HK.out.more HR1.out (Nat.le_add_right _ _), Past.refl _ _, rfl⟩
  case round =>
    obtain ⟨i, dk, rfl, hai, hib, hik, HR, HP, HO⟩ := hrel
    clear HR1
    by_cases hlt : i < b
    · have hltz : (i : Int) < (b : Int) := by omega
      go_wp2
      obtain ⟨q, hq⟩ : ∃ q, q = c0 + (i - a - 1) * (b - a) := ⟨_, rfl⟩
      rw [← hq] at HR
      have hqn : q + (b - a) ≤ c0 + (i + 1 - a - 1) * (b - a) := by
        rw [hq, show i + 1 - a - 1 = i - a - 1 + 1 by omega, Nat.succ_mul]; omega
      clear hq
      go_loopg [7] i (fun kx s7 wr => ∃ (j : Nat) (dj : Array α), s7 = .int .i64 j ∧ a ≤ j ∧ j ≤ i ∧ j ≤ kx ∧ Hid (R (q + (i - j)) wr dj) ∧ Hid (Past B W wr) ∧ Hid (insInner lt a j dj = insInner lt a i dk))
      case atStart => exact ⟨i, dk, rfl, by omega, Nat.le_refl _, Nat.le_refl _, HK.out.more HR.out (by omega), HP.out, rfl⟩
      case round =>
        obtain ⟨j, dj, rfl, haj, hji, hjk, HRj, HPj, HI⟩ := hrel
        by_cases hja : a < j
        · have hl := HK.out.less j (j - 1) (j : Int) ((j : Int) - 1) HRj.out (by omega) (by omega) rfl (by omega)
          have mL := HK.out.mL HRj.out
          cases hlv : lt dj[j]! dj[j - 1]! with
          | true =>
            rw [hlv] at hl
            have HL := Lib.hid hl
            clear hl
            go_wp2_with (go_at_fn gl; refine HL.out.mono ?_; rintro e w1 ⟨rfl, hR1, hP1⟩; have mS := HK.out.mS hR1; have HS := Lib.hid (HK.out.swap j (j - 1) (j : Int) ((j : Int) - 1) hR1 (by omega) (by omega) rfl (by omega)))
            go_wp2_with (go_at_fn gs; refine HS.out.mono ?_; rintro e w2 ⟨rfl, hR2, hP2⟩)
            have HR2 := Lib.hid (HK.out.more hR2 (show q + (i - j) + 1 ≤ q + (i - (j - 1)) by omega))
            have HP2 := Lib.hid (HPj.out.trans (hP1.trans hP2))
            clear hR1 hP1 hR2 hP2 mS HS
            go_roundg (j - 1)
            case measure => omega
            case rel => exact ⟨j - 1, swp dj j (j - 1), by congr 1 <;> omega, by omega, by omega, by omega, HR2.out, HP2.out, by show insInner lt a (j - 1) (swp dj j (j - 1)) = _; rw [← HI.out, insInner_go lt a j dj hja hlv]⟩
          | false =>
            rw [hlv] at hl
            have HL := Lib.hid hl
            clear hl
            go_wp2_with (go_at_fn gl; refine HL.out.mono ?_; rintro e w1 ⟨rfl, hR1, hP1⟩)
            have HR1 := Lib.hid (HK.out.more hR1 (show q + (i - j) ≤ c0 + (i + 1 - a - 1) * (b - a) by omega))
            have HP1' := Lib.hid (HPj.out.trans hP1)
            clear hR1 hP1
            go_roundg (b + 1 - (i + 1))
            case measure => omega
            case rel => exact ⟨i + 1, dj, by go_num, by omega, by omega, by omega, HR1.out, HP1'.out, by show insOuter lt a b (i + 1) dj = _; rw [← HO.out, insOuter_go _ _ _ _ _ hlt, ← HI.out, insInner_stop _ _ _ _ (Or.inr hlv)]⟩
        · have hjz : ¬ (a : Int) < (j : Int) := by omega
          have HR1 := Lib.hid (HK.out.more HRj.out (show q + (i - j) ≤ c0 + (i + 1 - a - 1) * (b - a) by omega))
          go_wp2
          go_roundg (b + 1 - (i + 1))
          case measure => omega
          case rel => exact ⟨i + 1, dj, by go_num, by omega, by omega, by omega, HR1.out, HPj.out, by show insOuter lt a b (i + 1) dj = _; rw [← HO.out, insOuter_go _ _ _ _ _ hlt, ← HI.out, insInner_stop _ _ _ _ (Or.inl (by omega))]⟩
    · have hltz : ¬ (i : Int) < (b : Int) := by omega
      go_wp2
      go_end0
      exact ⟨rfl, dk, by unfold Sort.insertionSort; rw [← HO.out, insOuter_stop _ _ _ _ _ hlt], HK.out.more HR.out (Nat.add_le_add_left (Nat.mul_le_mul_right _ (by omega)) _), HP1.out.trans HP.out⟩

set_option maxHeartbeats 4000000 in
set_option maxRecDepth 100000 in
theorem swapRange_if (K : IfRel Try.prog lt B n R Ty rv gl gs rl rs) (c0 : Nat) (a b c : Nat) (za zb zc : Int) (ha : za = a) (hbz : zb = b) (hc : zc = c) (d : Array α) (W : World) (hR : R c0 W d) (hab : a + c ≤ b) (hb : b + c ≤ n) (hn : n < 1152921504606846976) :
    Calls Try.prog 102 #[.iface Ty rv, .int .i64 za, .int .i64 zb, .int .i64 zc] W (TurnedI B R (c0 + c) (SwR n a b c d) W) := by
  subst ha hbz hc
  obtain ⟨hB, hds⟩ := K.size hR
  have eL := K.eL
  have eS := K.eS
  have HK := Lib.hid K
  have HR1 : Hid (R c0 W d) := hR
  have HP1 : Hid (Past B W W) := Past.refl _ _
  clear K hR
  go_enter Try.func102, Try.ntmps102
  go_wp2
  go_loopg [8] c (fun kx s8 wr => ∃ (i : Nat) (dk : Array α), s8 = .int .i64 i ∧ i ≤ c ∧ c - i ≤ kx ∧ Hid (R (c0 + i) wr dk) ∧ Hid (Past B W wr) ∧ Hid (SwR n a b i d dk))
  case atStart => exact ⟨0, d, rfl, Nat.zero_le _, by omega, HR1.out, Past.refl _ _, swapped_zero a b d, fun lo hi _ _ _ => permIn_refl _ _ _⟩
  case round =>
    obtain ⟨i, dk, rfl, hic, hik, HR, HP, HS⟩ := hrel
    clear HR1
    by_cases hlt : i < c
    · have hltz : (i : Int) < (c : Int) := by omega
      have mS := HK.out.mS HR.out
      have HSW := Lib.hid (HK.out.swap (a + i) (b + i) ((a : Int) + (i : Int)) ((b : Int) + (i : Int)) HR.out (by omega) (by omega) (by omega) (by omega))
      go_wp2_with (go_at_fn gs; refine HSW.out.mono ?_; rintro e w2 ⟨rfl, hR2, hP2⟩)
      have HRs := Lib.hid hR2
      have HPs := Lib.hid (HP.out.trans hP2)
      clear hR2 hP2 HSW mS
      have HSN : Hid (SwR n a b (i + 1) d (swp dk (a + i) (b + i))) := ⟨swapped_step HS.out.1 (by omega) (by omega), fun lo hi h1 h2 h3 => permIn_trans _ _ _ _ _ (HS.out.2 lo hi h1 (by omega) h3) (swp_permIn dk lo hi _ _ (by omega) (by omega) (by omega) (by omega) (by rw [HS.out.1.1]; omega))⟩
      go_roundg (c - (i + 1))
      case measure => omega
      case rel => exact ⟨i + 1, swp dk (a + i) (b + i), by go_num, by omega, by omega, HRs.out, HPs.out, HSN.out⟩
    · obtain rfl : i = c := by omega
      have hltz : ¬ (i : Int) < (i : Int) := by omega
      go_wp2
      go_end0
      exact ⟨rfl, dk, HS.out, HR.out, HP1.out.trans HP.out⟩

set_option maxHeartbeats 4000000 in
set_option maxRecDepth 100000 in
theorem rotate_if (K : IfRel Try.prog lt B n R Ty rv gl gs rl rs) (c0 : Nat) (a m b : Nat) (za zm zb : Int) (ha : za = a) (hm : zm = m) (hbz : zb = b) (d : Array α) (W : World) (hR : R c0 W d) (ham : a < m) (hmb : m < b) (hb : b ≤ n) (hn : n < 1152921504606846976) :
    Calls Try.prog 96 #[.iface Ty rv, .int .i64 za, .int .i64 zm, .int .i64 zb] W (TurnedI B R (c0 + (b - a)) (RoR n a m b d) W) := by
  subst ha hm hbz
  obtain ⟨hB, hds⟩ := K.size hR
  have eL := K.eL
  have eS := K.eS
  have HK := Lib.hid K
  have HR1 : Hid (R c0 W d) := hR
  have HP1 : Hid (Past B W W) := Past.refl _ _
  clear K hR
  go_enter Try.func96, Try.ntmps96
  go_wp2
  go_loopg [8, 9] (b - a) (fun kx s8 s9 wr => ∃ (i j : Nat) (zi zj : Int) (dk : Array α), s8 = .int .i64 zi ∧ s9 = .int .i64 zj ∧ zi = i ∧ zj = j ∧ 0 < i ∧ 0 < j ∧ i ≤ m - a ∧ j ≤ b - m ∧ i + j ≤ kx ∧ Hid (R (c0 + (b - a) - (i + j)) wr dk) ∧ Hid (Past B W wr) ∧ Hid (dk.size = d.size ∧ (∀ t, rotv dk (m - i) m (m + j) t = rotv d a m b t) ∧ ∀ lo hi, lo ≤ a → b ≤ hi → hi ≤ n → PermIn lo hi d dk))
  case atStart => exact ⟨m - a, b - m, (m : Int) - (a : Int), (b : Int) - (m : Int), d, rfl, rfl, by omega, by omega, by omega, by omega, Nat.le_refl _, Nat.le_refl _, by omega, HK.out.more HR1.out (by omega), Past.refl _ _, rfl, fun t => by rw [show m - (m - a) = a by omega, show m + (b - m) = b by omega], fun lo hi _ _ _ => permIn_refl _ _ _⟩
  case round =>
    obtain ⟨i, j, zi, zj, dk, rfl, rfl, hzi, hzj, hi0, hj0, him, hjb, hik, HR, HP, HS⟩ := hrel
    subst hzi hzj
    clear HR1
    by_cases hne : i = j
    · subst hne
      have hnez : ((i : Int) != (i : Int)) = false := by simp
      have HCA := Lib.hid (swapRange_if HK.out _ (m - i) (m) (i) ((m : Int) - (i : Int)) ((m : Int)) ((i : Int)) (by omega) (by omega) (by omega) dk wr HR.out (by omega) (by omega) hn)
      go_wp2_with fail
      refine HCA.out.mono ?_
      rintro e w2 ⟨rfl, dn, hsw, hR2, hP2⟩
      have HRs := Lib.hid hR2
      have HPs := Lib.hid (HP.out.trans hP2)
      have HSWR := Lib.hid hsw
      clear hR2 hP2 hsw HCA
      go_wp2_with fail
      go_end0
      refine ⟨rfl, dn, ⟨⟨HSWR.out.1.1.trans HS.out.1, fun t => ?_⟩, fun lo hi h1 h2 h3 => ?_⟩, HK.out.more HRs.out (by omega), HP1.out.trans HPs.out⟩
      · rw [rot_end (by omega) HSWR.out.1 t, HS.out.2.1 t]
      · exact permIn_trans _ _ _ _ _ (HS.out.2.2 lo hi h1 h2 h3) (HSWR.out.2 lo hi (by omega) (by omega) h3)
    · have hnez : ((i : Int) != (j : Int)) = true := by simp; omega
      have hnez2 : ¬ (i : Int) = (j : Int) := by omega
      by_cases hgt : j < i
      · have hgtz : (j : Int) < (i : Int) := by omega
        have HCA := Lib.hid (swapRange_if HK.out _ (m - i) (m) (j) ((m : Int) - (i : Int)) ((m : Int)) ((j : Int)) (by omega) (by omega) (by omega) dk wr HR.out (by omega) (by omega) hn)
        go_wp2_with fail
        refine HCA.out.mono ?_
        rintro e w2 ⟨rfl, dn, hsw, hR2, hP2⟩
        have HRs := Lib.hid hR2
        have HPs := Lib.hid (HP.out.trans hP2)
        have HSWR := Lib.hid hsw
        clear hR2 hP2 hsw HCA
        go_wp2_with fail
        have HN : Hid (dn.size = d.size ∧ (∀ t, rotv dn (m - (i - j)) m (m + j) t = rotv d a m b t) ∧ ∀ lo hi, lo ≤ a → b ≤ hi → hi ≤ n → PermIn lo hi d dn) :=
          ⟨HSWR.out.1.1.trans HS.out.1, fun t => (rot_big (by omega) hgt HSWR.out.1 t).trans (HS.out.2.1 t), fun lo hi h1 h2 h3 => permIn_trans _ _ _ _ _ (HS.out.2.2 lo hi h1 h2 h3) (HSWR.out.2 lo hi (by omega) (by omega) h3)⟩
        go_roundg (i - j + j)
        case measure => omega
        case rel => exact ⟨i - j, j, _, _, dn, rfl, rfl, by omega, rfl, by omega, hj0, by omega, hjb, by omega, HK.out.more HRs.out (by omega), HPs.out, HN.out⟩
      · have hgtz : ¬ (j : Int) < (i : Int) := by omega
        have HCA := Lib.hid (swapRange_if HK.out _ (m - i) (m + j - i) (i) ((m : Int) - (i : Int)) ((m : Int) + (j : Int) - (i : Int)) ((i : Int)) (by omega) (by omega) (by omega) dk wr HR.out (by omega) (by omega) hn)
        go_wp2_with fail
        refine HCA.out.mono ?_
        rintro e w2 ⟨rfl, dn, hsw, hR2, hP2⟩
        have HRs := Lib.hid hR2
        have HPs := Lib.hid (HP.out.trans hP2)
        have HSWR := Lib.hid hsw
        clear hR2 hP2 hsw HCA
        go_wp2_with fail
        have HN : Hid (dn.size = d.size ∧ (∀ t, rotv dn (m - i) m (m + (j - i)) t = rotv d a m b t) ∧ ∀ lo hi, lo ≤ a → b ≤ hi → hi ≤ n → PermIn lo hi d dn) :=
          ⟨HSWR.out.1.1.trans HS.out.1, fun t => (rot_small (by omega) (by omega) HSWR.out.1 t).trans (HS.out.2.1 t), fun lo hi h1 h2 h3 => permIn_trans _ _ _ _ _ (HS.out.2.2 lo hi h1 h2 h3) (HSWR.out.2 lo hi (by omega) (by omega) h3)⟩
        go_roundg (i + (j - i))
        case measure => omega
        case rel => exact ⟨i, j - i, _, _, dn, rfl, rfl, rfl, by omega, hi0, by omega, him, by omega, by omega, HK.out.more HRs.out (by omega), HPs.out, HN.out⟩

end

end Go.Proofs.Ytiioojnoggcnmaa

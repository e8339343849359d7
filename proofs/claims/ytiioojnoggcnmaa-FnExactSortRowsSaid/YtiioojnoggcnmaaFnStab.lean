/-
  What is proved here: the stable sort's functions (insertionSort_func, swapRange_func, rotate_func, symMerge_func, stable_func) over a relation that comparing and exchanging keep; condition: fewer than 2^60 elements. Written by wip/gen/stab.py.
-/
import Derived.Test.YtiioojnoggcnmaaRel
import Derived.Test.YtiioojnoggcnmaaSymPlain
namespace Go.Proofs.Ytiioojnoggcnmaa
open Go.RowKit Go.Sort
set_option linter.unusedVariables false
set_option linter.unusedSectionVars false

section
variable {α : Type} [Inhabited α] {lt : α → α → Bool} {T : α → α → Prop} {B n : Nat} {R : World → Array α → Prop} {gl sf : Nat} {lb sb : Array Value}

set_option maxHeartbeats 4000000 in
set_option maxRecDepth 100000 in
theorem insertion_fn (K : FnRel Try.prog lt B n R gl lb sf sb) (a b : Nat) (za zb : Int) (ha : za = a) (hbz : zb = b) (d : Array α) (W : World) (hR : R W d) (hab : a ≤ b) (hb : b ≤ n) (hn : n < 1152921504606846976) :
    Calls Try.prog 82 #[.agg #[.func (.func gl) #[] lb, .func (.func sf) #[] sb], .int .i64 za, .int .i64 zb] W (Turned B R (fun d' => d' = insertionSort lt d a b) W) := by
  subst ha hbz
  obtain ⟨hB, hds⟩ := K.size hR
  have eg := K.eg
  obtain ⟨W1, hW1⟩ : ∃ W1, W1 = W.alloc (.cells #[.func (.func gl) #[] lb, .func (.func sf) #[] sb] 82) := ⟨_, rfl⟩
  have hR1 : R W1 d := K.near hR (by rw [hW1]; exact (RowKit.Below.refl _ _).alloc hB _)
  have hP1 : Past B W W1 := by rw [hW1]; exact (Past.refl _ _).alloc _
  have c0 : W1.cell? ⟨W.heap.size, 0, none⟩ = some (.func (.func gl) #[] lb) := by rw [hW1]; simp
  have c1 : W1.cell? ⟨W.heap.size, 1, none⟩ = some (.func (.func sf) #[] sb) := by rw [hW1]; simp
  have HK := Lib.hid K
  have HR1 := Lib.hid hR1
  have HP1 := Lib.hid hP1
  have HC := Lib.hid (And.intro c0 c1)
  clear K hR hR1 hP1 c0 c1
  go_enter Try.func82, Try.ntmps82
  go_wp2
  rw [← hW1]
  clear hW1
  go_loopg [6] (b - a) (fun kx s6 wr => ∃ (i : Nat) (dk : Array α), s6 = .int .i64 i ∧ a < i ∧ i ≤ b + 1 ∧ b + 1 - i ≤ kx ∧ Hid (R wr dk) ∧ Hid (Past B W1 wr) ∧ Hid (insOuter lt a b i dk = insOuter lt a b (a + 1) d))
  case atStart => exact ⟨a + 1, d, by go_num, by omega, by omega, by omega, HR1.out, Past.refl _ _, rfl⟩
  case round =>
    obtain ⟨i, dk, rfl, hai, hib, hik, HR, HP, HO⟩ := hrel
    clear HR1
    by_cases hlt : i < b
    · have hltz : (i : Int) < (b : Int) := by omega
      go_wp2
      go_loopg [7] i (fun kx s7 wr => ∃ (j : Nat) (dj : Array α), s7 = .int .i64 j ∧ a ≤ j ∧ j ≤ i ∧ j ≤ kx ∧ Hid (R wr dj) ∧ Hid (Past B W1 wr) ∧ Hid (insInner lt a j dj = insInner lt a i dk))
      case atStart => exact ⟨i, dk, rfl, by omega, Nat.le_refl _, Nat.le_refl _, HR.out, HP.out, rfl⟩
      case round =>
        obtain ⟨j, dj, rfl, haj, hji, hjk, HRj, HPj, HI⟩ := hrel
        have c0 := HPj.out.cell hB HC.out.1
        have c1 := HPj.out.cell hB HC.out.2
        by_cases hja : a < j
        · have hl := HK.out.less j (j - 1) (j : Int) ((j : Int) - 1) HRj.out (by omega) (by omega) rfl (by omega)
          cases hlv : lt dj[j]! dj[j - 1]! with
          | true =>
            rw [hlv] at hl
            have HL := Lib.hid hl
            clear hl
            go_wp2_with (go_at_fn gl; refine HL.out.mono ?_; rintro e w1 ⟨rfl, hR1, hP1⟩; have c1w := hP1.cell hB c1)
            obtain ⟨w2, hs, hR2, hP2⟩ := HK.out.swap j (j - 1) (j : Int) ((j : Int) - 1) hR1 (by omega) (by omega) rfl (by omega)
            rw [hs, Oper.upon_value]
            have HR2 := Lib.hid hR2
            have HP2 := Lib.hid (HPj.out.trans (hP1.trans hP2))
            clear hR1 hP1 hR2 hP2 hs c1w
            go_wp2
            go_roundg (j - 1)
            case measure => omega
            case rel => exact ⟨j - 1, swp dj j (j - 1), by congr 1 <;> omega, by omega, by omega, by omega, HR2.out, HP2.out, by show insInner lt a (j - 1) (swp dj j (j - 1)) = _; rw [← HI.out, insInner_go lt a j dj hja hlv]⟩
          | false =>
            rw [hlv] at hl
            have HL := Lib.hid hl
            clear hl
            go_wp2_with (go_at_fn gl; refine HL.out.mono ?_; rintro e w1 ⟨rfl, hR1, hP1⟩)
            have HR1 := Lib.hid hR1
            have HP1' := Lib.hid (HPj.out.trans hP1)
            clear hR1 hP1
            go_roundg (b + 1 - (i + 1))
            case measure => omega
            case rel => exact ⟨i + 1, dj, by go_num, by omega, by omega, by omega, HR1.out, HP1'.out, by show insOuter lt a b (i + 1) dj = _; rw [← HO.out, insOuter_go _ _ _ _ _ hlt, ← HI.out, insInner_stop _ _ _ _ (Or.inr hlv)]⟩
        · have hjz : ¬ (a : Int) < (j : Int) := by omega
          go_wp2
          go_roundg (b + 1 - (i + 1))
          case measure => omega
          case rel => exact ⟨i + 1, dj, by go_num, by omega, by omega, by omega, HRj.out, HPj.out, by show insOuter lt a b (i + 1) dj = _; rw [← HO.out, insOuter_go _ _ _ _ _ hlt, ← HI.out, insInner_stop _ _ _ _ (Or.inl (by omega))]⟩
    · have hltz : ¬ (i : Int) < (b : Int) := by omega
      go_wp2
      go_end0
      exact ⟨rfl, dk, by unfold Sort.insertionSort; rw [← HO.out, insOuter_stop _ _ _ _ _ hlt], HR.out, HP1.out.trans HP.out⟩

set_option maxHeartbeats 4000000 in
set_option maxRecDepth 100000 in
theorem swapRange_fn (K : FnRel Try.prog lt B n R gl lb sf sb) (a b c : Nat) (za zb zc : Int) (ha : za = a) (hbz : zb = b) (hc : zc = c) (d : Array α) (W : World) (hR : R W d) (hab : a + c ≤ b) (hb : b + c ≤ n) (hn : n < 1152921504606846976) :
    Calls Try.prog 104 #[.agg #[.func (.func gl) #[] lb, .func (.func sf) #[] sb], .int .i64 za, .int .i64 zb, .int .i64 zc] W (Turned B R (SwR n a b c d) W) := by
  subst ha hbz hc
  obtain ⟨hB, hds⟩ := K.size hR
  have eg := K.eg
  obtain ⟨W1, hW1⟩ : ∃ W1, W1 = W.alloc (.cells #[.func (.func gl) #[] lb, .func (.func sf) #[] sb] 82) := ⟨_, rfl⟩
  have hR1 : R W1 d := K.near hR (by rw [hW1]; exact (RowKit.Below.refl _ _).alloc hB _)
  have hP1 : Past B W W1 := by rw [hW1]; exact (Past.refl _ _).alloc _
  have c0 : W1.cell? ⟨W.heap.size, 0, none⟩ = some (.func (.func gl) #[] lb) := by rw [hW1]; simp
  have c1 : W1.cell? ⟨W.heap.size, 1, none⟩ = some (.func (.func sf) #[] sb) := by rw [hW1]; simp
  have HK := Lib.hid K
  have HR1 := Lib.hid hR1
  have HP1 := Lib.hid hP1
  have HC := Lib.hid (And.intro c0 c1)
  clear K hR hR1 hP1 c0 c1
  go_enter Try.func104, Try.ntmps104
  go_wp2
  rw [← hW1]
  clear hW1
  go_loopg [8] c (fun kx s8 wr => ∃ (i : Nat) (dk : Array α), s8 = .int .i64 i ∧ i ≤ c ∧ c - i ≤ kx ∧ Hid (R wr dk) ∧ Hid (Past B W1 wr) ∧ Hid (SwR n a b i d dk))
  case atStart => exact ⟨0, d, rfl, Nat.zero_le _, by omega, HR1.out, Past.refl _ _, swapped_zero a b d, fun lo hi _ _ _ => permIn_refl _ _ _⟩
  case round =>
    obtain ⟨i, dk, rfl, hic, hik, HR, HP, HS⟩ := hrel
    clear HR1
    have c0 := HP.out.cell hB HC.out.1
    have c1 := HP.out.cell hB HC.out.2
    by_cases hlt : i < c
    · have hltz : (i : Int) < (c : Int) := by omega
      obtain ⟨w2, hs, hR2, hP2⟩ := HK.out.swap (a + i) (b + i) ((a : Int) + (i : Int)) ((b : Int) + (i : Int)) HR.out (by omega) (by omega) (by omega) (by omega)
      go_wp2
      have HRs := Lib.hid hR2
      have HPs := Lib.hid (HP.out.trans hP2)
      clear hR2 hP2 hs
      have HSN : Hid (SwR n a b (i + 1) d (swp dk (a + i) (b + i))) := ⟨swapped_step HS.out.1 (by omega) (by omega), fun lo hi h1 h2 h3 => permIn_trans _ _ _ _ _ (HS.out.2 lo hi h1 (by omega) h3) (swp_permIn dk lo hi _ _ (by omega) (by omega) (by omega) (by omega) (by rw [HS.out.1.1]; omega))⟩
      go_roundg (c - (i + 1))
      case measure => omega
      case rel => exact ⟨i + 1, swp dk (a + i) (b + i), by go_num, by omega, by omega, HRs.out, HPs.out, HSN.out⟩
    · obtain rfl : i = c := by omega
      have hltz : ¬ (i : Int) < (i : Int) := by omega
      go_wp2
      go_end0
      exact ⟨rfl, dk, HS.out, HR.out, HP1.out.trans HP.out⟩

set_option maxHeartbeats 4000000 in
set_option maxRecDepth 100000 in
theorem rotate_fn (K : FnRel Try.prog lt B n R gl lb sf sb) (a m b : Nat) (za zm zb : Int) (ha : za = a) (hm : zm = m) (hbz : zb = b) (d : Array α) (W : World) (hR : R W d) (ham : a < m) (hmb : m < b) (hb : b ≤ n) (hn : n < 1152921504606846976) :
    Calls Try.prog 100 #[.agg #[.func (.func gl) #[] lb, .func (.func sf) #[] sb], .int .i64 za, .int .i64 zm, .int .i64 zb] W (Turned B R (RoR n a m b d) W) := by
  subst ha hm hbz
  obtain ⟨hB, hds⟩ := K.size hR
  have eg := K.eg
  obtain ⟨W1, hW1⟩ : ∃ W1, W1 = W.alloc (.cells #[.func (.func gl) #[] lb, .func (.func sf) #[] sb] 82) := ⟨_, rfl⟩
  have hR1 : R W1 d := K.near hR (by rw [hW1]; exact (RowKit.Below.refl _ _).alloc hB _)
  have hP1 : Past B W W1 := by rw [hW1]; exact (Past.refl _ _).alloc _
  have c0 : W1.cell? ⟨W.heap.size, 0, none⟩ = some (.func (.func gl) #[] lb) := by rw [hW1]; simp
  have c1 : W1.cell? ⟨W.heap.size, 1, none⟩ = some (.func (.func sf) #[] sb) := by rw [hW1]; simp
  have HK := Lib.hid K
  have HR1 := Lib.hid hR1
  have HP1 := Lib.hid hP1
  have HC := Lib.hid (And.intro c0 c1)
  clear K hR hR1 hP1 c0 c1
  go_enter Try.func100, Try.ntmps100
  go_wp2
  rw [← hW1]
  clear hW1
  go_loopg [8, 9] (b - a) (fun kx s8 s9 wr => ∃ (i j : Nat) (zi zj : Int) (dk : Array α), s8 = .int .i64 zi ∧ s9 = .int .i64 zj ∧ zi = i ∧ zj = j ∧ 0 < i ∧ 0 < j ∧ i ≤ m - a ∧ j ≤ b - m ∧ i + j ≤ kx ∧ Hid (R wr dk) ∧ Hid (Past B W1 wr) ∧ Hid (dk.size = d.size ∧ (∀ t, rotv dk (m - i) m (m + j) t = rotv d a m b t) ∧ ∀ lo hi, lo ≤ a → b ≤ hi → hi ≤ n → PermIn lo hi d dk))
  case atStart => exact ⟨m - a, b - m, (m : Int) - (a : Int), (b : Int) - (m : Int), d, rfl, rfl, by omega, by omega, by omega, by omega, Nat.le_refl _, Nat.le_refl _, by omega, HR1.out, Past.refl _ _, rfl, fun t => by rw [show m - (m - a) = a by omega, show m + (b - m) = b by omega], fun lo hi _ _ _ => permIn_refl _ _ _⟩
  case round =>
    obtain ⟨i, j, zi, zj, dk, rfl, rfl, hzi, hzj, hi0, hj0, him, hjb, hik, HR, HP, HS⟩ := hrel
    subst hzi hzj
    clear HR1
    have c0 := HP.out.cell hB HC.out.1
    have c1 := HP.out.cell hB HC.out.2
    by_cases hne : i = j
    · subst hne
      have hnez : ((i : Int) != (i : Int)) = false := by simp
      have HCA := Lib.hid (swapRange_fn HK.out (m - i) (m) (i) ((m : Int) - (i : Int)) ((m : Int)) ((i : Int)) (by omega) (by omega) (by omega) dk wr HR.out (by omega) (by omega) hn)
      go_wp2_with fail
      refine HCA.out.mono ?_
      rintro e w2 ⟨rfl, dn, hsw, hR2, hP2⟩
      have HRs := Lib.hid hR2
      have HPs := Lib.hid (HP.out.trans hP2)
      have HSWR := Lib.hid hsw
      clear hR2 hP2 hsw HCA
      go_wp2_with fail
      go_end0
      refine ⟨rfl, dn, ⟨⟨HSWR.out.1.1.trans HS.out.1, fun t => ?_⟩, fun lo hi h1 h2 h3 => ?_⟩, HRs.out, HP1.out.trans HPs.out⟩
      · rw [rot_end (by omega) HSWR.out.1 t, HS.out.2.1 t]
      · exact permIn_trans _ _ _ _ _ (HS.out.2.2 lo hi h1 h2 h3) (HSWR.out.2 lo hi (by omega) (by omega) h3)
    · have hnez : ((i : Int) != (j : Int)) = true := by simp; omega
      have hnez2 : ¬ (i : Int) = (j : Int) := by omega
      by_cases hgt : j < i
      · have hgtz : (j : Int) < (i : Int) := by omega
        have HCA := Lib.hid (swapRange_fn HK.out (m - i) (m) (j) ((m : Int) - (i : Int)) ((m : Int)) ((j : Int)) (by omega) (by omega) (by omega) dk wr HR.out (by omega) (by omega) hn)
        go_wp2_with fail
        refine HCA.out.mono ?_
        rintro e w2 ⟨rfl, dn, hsw, hR2, hP2⟩
        have HRs := Lib.hid hR2
        have HPs := Lib.hid (HP.out.trans hP2)
        have HSWR := Lib.hid hsw
        clear hR2 hP2 hsw HCA
        go_wp2_with fail
        have HN : Hid (dn.size = d.size ∧ (∀ t, rotv dn (m - (i - j)) m (m + j) t = rotv d a m b t) ∧ ∀ lo hi, lo ≤ a → b ≤ hi → hi ≤ n → PermIn lo hi d dn) :=
          ⟨HSWR.out.1.1.trans HS.out.1, fun t => (rot_big (by omega) hgt HSWR.out.1 t).trans (HS.out.2.1 t), fun lo hi h1 h2 h3 => permIn_trans _ _ _ _ _ (HS.out.2.2 lo hi h1 h2 h3) (HSWR.out.2 lo hi (by omega) (by omega) h3)⟩
        go_roundg (i - j + j)
        case measure => omega
        case rel => exact ⟨i - j, j, _, _, dn, rfl, rfl, by omega, rfl, by omega, hj0, by omega, hjb, by omega, HRs.out, HPs.out, HN.out⟩
      · have hgtz : ¬ (j : Int) < (i : Int) := by omega
        have HCA := Lib.hid (swapRange_fn HK.out (m - i) (m + j - i) (i) ((m : Int) - (i : Int)) ((m : Int) + (j : Int) - (i : Int)) ((i : Int)) (by omega) (by omega) (by omega) dk wr HR.out (by omega) (by omega) hn)
        go_wp2_with fail
        refine HCA.out.mono ?_
        rintro e w2 ⟨rfl, dn, hsw, hR2, hP2⟩
        have HRs := Lib.hid hR2
        have HPs := Lib.hid (HP.out.trans hP2)
        have HSWR := Lib.hid hsw
        clear hR2 hP2 hsw HCA
        go_wp2_with fail
        have HN : Hid (dn.size = d.size ∧ (∀ t, rotv dn (m - i) m (m + (j - i)) t = rotv d a m b t) ∧ ∀ lo hi, lo ≤ a → b ≤ hi → hi ≤ n → PermIn lo hi d dn) :=
          ⟨HSWR.out.1.1.trans HS.out.1, fun t => (rot_small (by omega) (by omega) HSWR.out.1 t).trans (HS.out.2.1 t), fun lo hi h1 h2 h3 => permIn_trans _ _ _ _ _ (HS.out.2.2 lo hi h1 h2 h3) (HSWR.out.2 lo hi (by omega) (by omega) h3)⟩
        go_roundg (i + (j - i))
        case measure => omega
        case rel => exact ⟨i, j - i, _, _, dn, rfl, rfl, rfl, by omega, hi0, by omega, him, by omega, by omega, HRs.out, HPs.out, HN.out⟩

end

end Go.Proofs.Ytiioojnoggcnmaa

/-
  What is proved here: symMerge_func and stable_func over a relation that comparing and exchanging keep; condition: fewer than 2^60 elements. Written by wip/gen/sym.py.
-/
import Derived.Test.YtiioojnoggcnmaaFnStab
namespace Go.Proofs.Ytiioojnoggcnmaa
open Go.RowKit Go.Sort
set_option linter.unusedVariables false
set_option linter.unusedSectionVars false

section
variable {α : Type} [Inhabited α] {lt : α → α → Bool} {T : α → α → Prop} {B n : Nat} {R : World → Array α → Prop} {gl sf : Nat} {lb sb : Array Value}

theorem merges_kept {a m b : Nat} {d d' : Array α} (h : Merges lt T a m b d) (hk : ∀ t, a ≤ t → d'[t]! = d[t]!) (ham : a ≤ m := by omega) : Merges lt T a m b d' := by
  obtain ⟨h1, h2, h3⟩ := h
  refine ⟨fun i j e1 e2 e3 => ?_, fun i j e1 e2 e3 => ?_, fun i j e1 e2 e3 e4 => ?_⟩
  · rw [hk i e1, hk j (by omega)]; exact h1 i j e1 e2 e3
  · rw [hk i (by omega), hk j (by omega)]; exact h2 i j e1 e2 e3
  · rw [hk i e1, hk j (by omega)]; exact h3 i j e1 e2 e3 e4

set_option maxHeartbeats 8000000 in
set_option maxRecDepth 100000 in
theorem symMerge_fn (htr : ∀ x y z, T x y → T y z → T x z) (K : FnRel Try.prog lt B n R gl lb sf sb) (hn : n < 1152921504606846976) : ∀ (N a m b : Nat) (za zm zb : Int) (d : Array α) (W : World), b - a < N → za = a → zm = m → zb = b → R W d → a < m → m < b → b ≤ n → n < 1152921504606846976 → Merges lt T a m b d →
    Calls Try.prog 90 #[.agg #[.func (.func gl) #[] lb, .func (.func sf) #[] sb], .int .i64 za, .int .i64 zm, .int .i64 zb] W (Turned B R (fun d' => PermIn a b d d' ∧ SortT T a b d') W) := by
  intro N
  induction N with
  | zero => intro a m b za zm zb d W h; exact absurd h (Nat.not_lt_zero _)
  | succ N ih0 =>
    intro a m b za zm zb d W hN ha hm hbz hR ham hmb hb hn' hM
    subst ha hm hbz
    have ih := fun a m b za zm zb d W h1 h2 h3 h4 h5 h6 h7 h8 h9 h10 => ih0 a m b za zm zb d W h1 h2 h3 h4 h5 h6 h7 h8 h9 h10
    have IH := Lib.hid ih
    clear ih ih0 hn'
    obtain ⟨hB, hds⟩ := K.size hR
    have eg := K.eg
    obtain ⟨W1, hW1⟩ : ∃ W1, W1 = W.alloc (.cells #[.func (.func gl) #[] lb, .func (.func sf) #[] sb] 82) := ⟨_, rfl⟩
    have hR1 : R W1 d := K.near hR (by rw [hW1]; exact (RowKit.Below.refl _ _).alloc hB _)
    have hP1 : Past B W W1 := by rw [hW1]; exact (Past.refl _ _).alloc _
    have c0 : W1.cell? ⟨W.heap.size, 0, none⟩ = some (.func (.func gl) #[] lb) := by rw [hW1]; simp
    have c1 : W1.cell? ⟨W.heap.size, 1, none⟩ = some (.func (.func sf) #[] sb) := by rw [hW1]; simp
    have HK := Lib.hid K
    have HR1 := Lib.hid hR1
    have HP1 := Lib.hid hP1
    have HC := Lib.hid (And.intro c0 c1)
    clear K hR hR1 hP1 c0 c1
    go_enter Try.func90, Try.ntmps90
    by_cases h1 : m = a + 1
    · have h1z : (m : Int) - (a : Int) = 1 := by omega
      have hma1 : m ≤ a + 1 := by omega
      have hma2 : a + 1 ≤ m := by omega
      have H1 := Lib.hid h1
      have HM := Lib.hid hM
      clear hM h1
      go_wp2
      rw [← hW1]
      clear hW1
      go_loopg [8, 9] (b - m) (fun kx s8 s9 wr => ∃ (i j : Nat), s8 = .int .i64 i ∧ s9 = .int .i64 j ∧ m ≤ i ∧ i ≤ j ∧ j ≤ b ∧ j - i ≤ kx ∧ Hid (R wr d) ∧ Hid (Past B W1 wr) ∧ Hid ((∀ t, m ≤ t → t < i → T d[t]! d[a]!) ∧ (∀ t, j ≤ t → t < b → T d[a]! d[t]!)))
      case atStart => exact ⟨m, b, rfl, rfl, Nat.le_refl _, by omega, Nat.le_refl _, by omega, HR1.out, Past.refl _ _, fun t h3 h4 => by omega, fun t h3 h4 => by omega⟩
      case round =>
        obtain ⟨i, j, rfl, rfl, hi1, hij, hjb, hik, HR, HP, HS⟩ := hrel
        have c0 := HP.out.cell hB HC.out.1
        have c1 := HP.out.cell hB HC.out.2
        by_cases hlt : i < j
        · have hltz : (i : Int) < (j : Int) := by omega
          obtain ⟨h, hh⟩ : ∃ h, h = (i + j) / 2 := ⟨_, rfl⟩
          have hhz : ((i : Int) + (j : Int)) / 2 = (h : Int) := by omega
          have hhi : i ≤ h := by omega
          have hhj : h < j := by omega
          cases hlv : lt d[h]! d[a]! with
          | true =>
            have HL := Lib.hid (HK.out.less h a ((h : Int)) ((a : Int)) HR.out (by omega) (by omega) (by omega) (by omega))
            rw [hlv] at HL
            have HN : Hid ((∀ t, m ≤ t → t < h + 1 → T d[t]! d[a]!) ∧ (∀ t, j ≤ t → t < b → T d[a]! d[t]!)) := by
              have ht := (HM.out.2.2 a h (by omega) (by omega) (by omega) (by omega)).1 hlv
              refine ⟨fun t h3 h4 => ?_, HS.out.2⟩
              rcases Nat.lt_or_ge t h with h5 | h5
              · exact htr _ _ _ (HM.out.2.1 t h h3 h5 (by omega)) ht
              · obtain rfl : t = h := by omega
                exact ht
            clear hh hlv
            go_wp2_with (go_at_fn gl; refine HL.out.mono ?_; rintro e w1 ⟨rfl, hR1, hP1⟩)
            have HRn := Lib.hid hR1
            have HPn := Lib.hid (HP.out.trans hP1)
            clear hR1 hP1
            go_roundg (j - (h + 1))
            case measure => omega
            case rel => exact ⟨h + 1, j, by go_num, rfl, by omega, by omega, hjb, Nat.le_refl _, HRn.out, HPn.out, HN.out⟩
          | false =>
            have HL := Lib.hid (HK.out.less h a ((h : Int)) ((a : Int)) HR.out (by omega) (by omega) (by omega) (by omega))
            rw [hlv] at HL
            have HN : Hid ((∀ t, m ≤ t → t < i → T d[t]! d[a]!) ∧ (∀ t, h ≤ t → t < b → T d[a]! d[t]!)) := by
              have ht := (HM.out.2.2 a h (by omega) (by omega) (by omega) (by omega)).2 hlv
              refine ⟨HS.out.1, fun t h3 h4 => ?_⟩
              rcases Nat.lt_or_ge h t with h5 | h5
              · exact htr _ _ _ ht (HM.out.2.1 h t (by omega) h5 h4)
              · obtain rfl : t = h := by omega
                exact ht
            clear hh hlv
            go_wp2_with (go_at_fn gl; refine HL.out.mono ?_; rintro e w1 ⟨rfl, hR1, hP1⟩)
            have HRn := Lib.hid hR1
            have HPn := Lib.hid (HP.out.trans hP1)
            clear hR1 hP1
            go_roundg (h - i)
            case measure => omega
            case rel => exact ⟨i, h, rfl, rfl, hi1, by omega, by omega, Nat.le_refl _, HRn.out, HPn.out, HN.out⟩
        · obtain rfl : i = j := by omega
          have hltz : ¬ (i : Int) < (i : Int) := by omega
          have HPa := HP
          clear HR1
          go_wp2
          go_loopg [11] (i - 1 - a) (fun kx s11 wr => ∃ (k : Nat) (dk : Array α), s11 = .int .i64 k ∧ a ≤ k ∧ k ≤ i - 1 ∧ i - 1 - k ≤ kx ∧ Hid (R wr dk) ∧ Hid (Past B W1 wr) ∧ Hid (Up a k d dk ∧ PermIn a b d dk))
          case atStart => exact ⟨a, d, rfl, Nat.le_refl _, by omega, by omega, HR.out, HP.out, up_start a d, permIn_refl _ _ _⟩
          case round =>
            clear HR HP
            obtain ⟨k, dk, rfl, hak, hki, hkk, HR, HP, HU⟩ := hrel
            have c0 := HP.out.cell hB HC.out.1
            have c1 := HP.out.cell hB HC.out.2
            have hy1 : IntKind.i64.wrap ((i : Int) - 1) = (i : Int) - 1 := IntWalk.i64_in _ (by omega)
            by_cases hkl : k < i - 1
            · have hklz : (k : Int) < (i : Int) - 1 := by omega
              obtain ⟨w2, hs, hR2, hP2⟩ := HK.out.swap k (k + 1) ((k : Int)) ((k : Int) + 1) HR.out (by omega) (by omega) (by omega) (by omega)
              go_wp2
              have HRs := Lib.hid hR2
              have HPs := Lib.hid (HP.out.trans hP2)
              clear hR2 hP2 hs
              have HN : Hid (Up a (k + 1) d (swp dk k (k + 1)) ∧ PermIn a b d (swp dk k (k + 1))) := ⟨up_step HU.out.1 hak (by omega), permIn_trans _ _ _ _ _ HU.out.2 (swp_permIn dk a b k (k + 1) (by omega) (by omega) (by omega) (by omega) (by rw [HU.out.1.1]; omega))⟩
              go_roundg (i - 1 - (k + 1))
              case measure => omega
              case rel => exact ⟨k + 1, swp dk k (k + 1), by go_num, by omega, by omega, by omega, HRs.out, HPs.out, HN.out⟩
            · have hklz : ¬ (k : Int) < (i : Int) - 1 := by omega
              obtain rfl : k = i - 1 := by omega
              go_wp2
              (first
                | go_end0
                | ((try simp only [Exit.inBlock, Exit.then]); refine bodyPost_ret (results_none rfl _ _ _) rfl ?_))
              exact ⟨rfl, dk, ⟨HU.out.2, up_sorted (by omega) hjb HU.out.1 (by rw [← H1.out]; exact HM.out.2.1) (fun t h3 h4 => HS.out.1 t (by omega) h4) HS.out.2⟩, HR.out, HP1.out.trans HP.out⟩
    · by_cases h2 : b = m + 1
      · have h2z : (b : Int) - (m : Int) = 1 := by omega
        have h1z : ¬ (m : Int) - (a : Int) = 1 := by omega
        have h1y : ((m : Int) - (a : Int) == 1) = false := by simp; omega
        have hmb1 : b ≤ m + 1 := by omega
        have hmb2 : m + 1 ≤ b := by omega
        have H2 := Lib.hid h2
        have HM := Lib.hid hM
        clear hM h2 h1
        go_wp2
        rw [← hW1]
        clear hW1
        go_loopg [12, 13] (m - a) (fun kx s12 s13 wr => ∃ (i j : Nat), s12 = .int .i64 i ∧ s13 = .int .i64 j ∧ a ≤ i ∧ i ≤ j ∧ j ≤ m ∧ j - i ≤ kx ∧ Hid (R wr d) ∧ Hid (Past B W1 wr) ∧ Hid ((∀ t, a ≤ t → t < i → T d[t]! d[m]!) ∧ (∀ t, j ≤ t → t < m → T d[m]! d[t]!)))
        case atStart => exact ⟨a, m, rfl, rfl, Nat.le_refl _, by omega, Nat.le_refl _, Nat.le_refl _, HR1.out, Past.refl _ _, fun t h3 h4 => by omega, fun t h3 h4 => by omega⟩
        case round =>
          obtain ⟨i, j, rfl, rfl, hi1, hij, hjb, hik, HR, HP, HS⟩ := hrel
          have c0 := HP.out.cell hB HC.out.1
          have c1 := HP.out.cell hB HC.out.2
          by_cases hlt : i < j
          · have hltz : (i : Int) < (j : Int) := by omega
            obtain ⟨h, hh⟩ : ∃ h, h = (i + j) / 2 := ⟨_, rfl⟩
            have hhz : ((i : Int) + (j : Int)) / 2 = (h : Int) := by omega
            have hhi : i ≤ h := by omega
            have hhj : h < j := by omega
            cases hlv : lt d[m]! d[h]! with
            | false =>
              have HL := Lib.hid (HK.out.less m h ((m : Int)) ((h : Int)) HR.out (by omega) (by omega) (by omega) (by omega))
              rw [hlv] at HL
              have HN : Hid ((∀ t, a ≤ t → t < h + 1 → T d[t]! d[m]!) ∧ (∀ t, j ≤ t → t < m → T d[m]! d[t]!)) := by
                have ht := (HM.out.2.2 h m (by omega) (by omega) (by omega) (by omega)).2 hlv
                refine ⟨fun t h3 h4 => ?_, HS.out.2⟩
                rcases Nat.lt_or_ge t h with h5 | h5
                · exact htr _ _ _ (HM.out.1 t h h3 h5 (by omega)) ht
                · obtain rfl : t = h := by omega
                  exact ht
              clear hh hlv
              go_wp2_with (go_at_fn gl; refine HL.out.mono ?_; rintro e w1 ⟨rfl, hR1, hP1⟩)
              have HRn := Lib.hid hR1
              have HPn := Lib.hid (HP.out.trans hP1)
              clear hR1 hP1
              go_roundg (j - (h + 1))
              case measure => omega
              case rel => exact ⟨h + 1, j, by go_num, rfl, by omega, by omega, hjb, Nat.le_refl _, HRn.out, HPn.out, HN.out⟩
            | true =>
              have HL := Lib.hid (HK.out.less m h ((m : Int)) ((h : Int)) HR.out (by omega) (by omega) (by omega) (by omega))
              rw [hlv] at HL
              have HN : Hid ((∀ t, a ≤ t → t < i → T d[t]! d[m]!) ∧ (∀ t, h ≤ t → t < m → T d[m]! d[t]!)) := by
                have ht := (HM.out.2.2 h m (by omega) (by omega) (by omega) (by omega)).1 hlv
                refine ⟨HS.out.1, fun t h3 h4 => ?_⟩
                rcases Nat.lt_or_ge h t with h5 | h5
                · exact htr _ _ _ ht (HM.out.1 h t (by omega) h5 h4)
                · obtain rfl : t = h := by omega
                  exact ht
              clear hh hlv
              go_wp2_with (go_at_fn gl; refine HL.out.mono ?_; rintro e w1 ⟨rfl, hR1, hP1⟩)
              have HRn := Lib.hid hR1
              have HPn := Lib.hid (HP.out.trans hP1)
              clear hR1 hP1
              go_roundg (h - i)
              case measure => omega
              case rel => exact ⟨i, h, rfl, rfl, hi1, by omega, by omega, Nat.le_refl _, HRn.out, HPn.out, HN.out⟩
          · obtain rfl : i = j := by omega
            have hltz : ¬ (i : Int) < (i : Int) := by omega
            clear HR1
            go_wp2
            go_loopg [15] (m - i) (fun kx s15 wr => ∃ (k : Nat) (dk : Array α), s15 = .int .i64 k ∧ i ≤ k ∧ k ≤ m ∧ k - i ≤ kx ∧ Hid (R wr dk) ∧ Hid (Past B W1 wr) ∧ Hid (Down m k d dk ∧ PermIn a b d dk))
            case atStart => exact ⟨m, d, rfl, hjb, Nat.le_refl _, Nat.le_refl _, HR.out, HP.out, down_start m d, permIn_refl _ _ _⟩
            case round =>
              clear HR HP
              obtain ⟨k, dk, rfl, hik2, hkm, hkk, HR, HP, HU⟩ := hrel
              have c0 := HP.out.cell hB HC.out.1
              have c1 := HP.out.cell hB HC.out.2
              by_cases hkl : i < k
              · have hklz : (i : Int) < (k : Int) := by omega
                obtain ⟨w2, hs, hR2, hP2⟩ := HK.out.swap k (k - 1) ((k : Int)) ((k : Int) - 1) HR.out (by omega) (by omega) (by omega) (by omega)
                go_wp2
                have HRs := Lib.hid hR2
                have HPs := Lib.hid (HP.out.trans hP2)
                clear hR2 hP2 hs
                have HN : Hid (Down m (k - 1) d (swp dk k (k - 1)) ∧ PermIn a b d (swp dk k (k - 1))) := ⟨down_step' HU.out.1 (by omega) (by omega) (by omega), permIn_trans _ _ _ _ _ HU.out.2 (swp_permIn dk a b k (k - 1) (by omega) (by omega) (by omega) (by omega) (by rw [HU.out.1.1]; omega))⟩
                go_roundg (k - 1 - i)
                case measure => omega
                case rel => exact ⟨k - 1, swp dk k (k - 1), by congr 1 <;> omega, by omega, by omega, Nat.le_refl _, HRs.out, HPs.out, HN.out⟩
              · have hklz : ¬ (i : Int) < (k : Int) := by omega
                obtain rfl : k = i := by omega
                go_wp2
                (first
                  | go_end0
                  | ((try simp only [Exit.inBlock, Exit.then]); refine bodyPost_ret (results_none rfl _ _ _) rfl ?_))
                exact ⟨rfl, dk, ⟨HU.out.2, by rw [H2.out]; exact down_sorted hi1 hjb HU.out.1 HM.out.1 HS.out.1 HS.out.2⟩, HR.out, HP1.out.trans HP.out⟩
      · have h1z : ¬ (m : Int) - (a : Int) = 1 := by omega
        have h2z : ¬ (b : Int) - (m : Int) = 1 := by omega
        have h1y : ((m : Int) - (a : Int) == 1) = false := by simp; omega
        have h2y : ((b : Int) - (m : Int) == 1) = false := by simp; omega
        obtain ⟨mid, hmid⟩ : ∃ mid, mid = (a + b) / 2 := ⟨_, rfl⟩
        have hmz : ((a : Int) + (b : Int)) / 2 = (mid : Int) := by omega
        have hma : a < mid := by omega
        have hmb2 : mid < b := by omega
        have HM := Lib.hid hM
        clear hM h1 h2
        obtain ⟨lo, hi, hlh⟩ : ∃ lo hi, (mid < m ∧ lo = mid + m - b ∧ hi = mid) ∨ (m ≤ mid ∧ lo = a ∧ hi = m) := by
          rcases Nat.lt_or_ge mid m with h | h
          · exact ⟨_, _, .inl ⟨h, rfl, rfl⟩⟩
          · exact ⟨_, _, .inr ⟨h, rfl, rfl⟩⟩
        have hloa : a ≤ lo := by omega
        have hhim : hi ≤ m := by omega
        have hlohi : lo ≤ hi := by omega
        have hrng : ∀ c, lo ≤ c → c < hi → m ≤ mid + m - 1 - c ∧ mid + m - 1 - c < b ∧ c ≤ mid + m - 1 := fun c h3 h4 => by omega
        have HRNG := Lib.hid hrng
        have HLH := Lib.hid hlh
        have HMID := Lib.hid hmid
        have hhib : hi ≤ mid := by omega
        have hlob : mid + m - b ≤ lo := by omega
        have hstart : ∃ (zl zh : Int) , zl = lo ∧ zh = hi ∧ ((mid < m ∧ zl = (mid : Int) + (m : Int) - (b : Int) ∧ zh = (mid : Int)) ∨ (m ≤ mid ∧ zl = (a : Int) ∧ zh = (m : Int))) := by
          refine ⟨lo, hi, rfl, rfl, ?_⟩
          omega
        clear hrng hlh hmid
        have hcase : (mid : Int) < (m : Int) ∨ ¬ (mid : Int) < (m : Int) := by omega
        rcases hcase with hcm | hcm
        all_goals
          go_wp2
          rw [← hW1]
          clear hW1
          go_loopg [18, 19] (hi - lo) (fun kx s18 s19 wr => ∃ (s r : Nat) (zs zr : Int), s18 = .int .i64 zs ∧ s19 = .int .i64 zr ∧ zs = s ∧ zr = r ∧ lo ≤ s ∧ s ≤ r ∧ r ≤ hi ∧ r - s ≤ kx ∧ Hid (R wr d) ∧ Hid (Past B W1 wr) ∧ Hid (Seek T lo hi (mid + m - 1) s r d))
          case atStart => exact ⟨lo, hi, _, _, rfl, rfl, (by have := HLH.out; omega), (by have := HLH.out; omega), Nat.le_refl _, hlohi, Nat.le_refl _, Nat.le_refl _, HR1.out, Past.refl _ _, fun c h3 h4 => by omega, fun c h3 h4 => by omega⟩
          case round =>
            obtain ⟨s, r, zs, zr, rfl, rfl, hzs, hzr, hls, hsr, hrh, hsk, HR, HP, HS⟩ := hrel
            subst hzs hzr
            have c0 := HP.out.cell hB HC.out.1
            have c1 := HP.out.cell hB HC.out.2
            by_cases hlt : s < r
            · have hltz : (s : Int) < (r : Int) := by omega
              obtain ⟨c, hc⟩ : ∃ c, c = (s + r) / 2 := ⟨_, rfl⟩
              have hcz : ((s : Int) + (r : Int)) / 2 = (c : Int) := by omega
              have hcs : s ≤ c := by omega
              have hcr : c < r := by omega
              have hcb := HRNG.out c (by omega) (by omega)
              obtain ⟨hcb1, hcb2, hcb3⟩ := hcb
              cases hlv : lt d[mid + m - 1 - c]! d[c]! with
              | false =>
                have HL := Lib.hid (HK.out.less (mid + m - 1 - c) c ((mid : Int) + (m : Int) - 1 - (c : Int)) ((c : Int)) HR.out (by omega) (by omega) (by omega) (by omega))
                rw [hlv] at HL
                have HN : Hid (Seek T lo hi (mid + m - 1) (c + 1) r d) := seek_up htr HM.out hloa hhim HRNG.out HS.out hcs hcr hls hrh hlv
                clear hc hlv
                go_wp2_with (go_at_fn gl; refine HL.out.mono ?_; rintro e w1 ⟨rfl, hR1, hP1⟩)
                have HRn := Lib.hid hR1
                have HPn := Lib.hid (HP.out.trans hP1)
                clear hR1 hP1
                go_roundg (r - (c + 1))
                case measure => omega
                case rel => exact ⟨c + 1, r, _, _, rfl, rfl, by go_num, rfl, by omega, by omega, hrh, Nat.le_refl _, HRn.out, HPn.out, HN.out⟩
              | true =>
                have HL := Lib.hid (HK.out.less (mid + m - 1 - c) c ((mid : Int) + (m : Int) - 1 - (c : Int)) ((c : Int)) HR.out (by omega) (by omega) (by omega) (by omega))
                rw [hlv] at HL
                have HN : Hid (Seek T lo hi (mid + m - 1) s c d) := seek_down htr HM.out hloa hhim HRNG.out HS.out hcs hcr hls hrh hlv
                clear hc hlv
                go_wp2_with (go_at_fn gl; refine HL.out.mono ?_; rintro e w1 ⟨rfl, hR1, hP1⟩)
                have HRn := Lib.hid hR1
                have HPn := Lib.hid (HP.out.trans hP1)
                clear hR1 hP1
                go_roundg (c - s)
                case measure => omega
                case rel => exact ⟨s, c, _, _, rfl, rfl, rfl, rfl, hls, hcs, by omega, Nat.le_refl _, HRn.out, HPn.out, HN.out⟩
            · obtain rfl : s = r := by omega
              have hltz : ¬ (s : Int) < (s : Int) := by omega
              have HCUT := Lib.hid (seek_cut htr HM.out ham hmb HMID.out HLH.out HS.out hls hrh)
              obtain ⟨e, he⟩ : ∃ e, e = mid + m - s := ⟨_, rfl⟩
              have hez : (mid : Int) + (m : Int) - (s : Int) = (e : Int) := by omega
              have hse : s ≤ m ∧ m ≤ e ∧ e ≤ b ∧ s ≤ mid ∧ a ≤ s := by have := HCUT.out; unfold CutAt at this; omega
              obtain ⟨hsm, hme, heb, hsmid, has⟩ := hse
              have hmide : mid ≤ e := by omega
              have HE := Lib.hid he
              clear he HR1 HS
              by_cases hrot : s < m ∧ m < e
              · obtain ⟨hrot1, hrot2⟩ := hrot
                have hr1z : (s : Int) < (m : Int) := by omega
                have hr2z : (m : Int) < (e : Int) := by omega
                have HROT := Lib.hid (rotate_fn HK.out s m e (s : Int) (m : Int) (e : Int) rfl rfl rfl d wr HR.out hrot1 hrot2 (by omega) hn)
                go_wp2_with fail
                refine HROT.out.mono ?_
                rintro e2 w2 ⟨rfl, d1, hror, hR2, hP2⟩
                have HRa := Lib.hid hR2
                have HPa := Lib.hid (HP.out.trans hP2)
                have HROR := Lib.hid hror
                clear hR2 hP2 hror HROT
                obtain ⟨hm1, hm2, hx⟩ := sym_parts HM.out HCUT.out ⟨by omega, by omega⟩ (by rw [← HE.out]; exact HROR.out.1)
                rw [← HE.out] at hm2
                have hp1 : PermIn a b d d1 := HROR.out.2 a b has heb (by omega)
                have HM1 := Lib.hid hm1
                have HM2 := Lib.hid hm2
                have HX := Lib.hid hx
                have HPP := Lib.hid hp1
                clear hm1 hm2 hx hp1
                have c0 := HPa.out.cell hB HC.out.1
                have c1 := HPa.out.cell hB HC.out.2
                by_cases hc1 : a < s ∧ s < mid
                · obtain ⟨hc11, hc12⟩ := hc1
                  have hc1a : (a : Int) < (s : Int) := by omega
                  have hc1b : (s : Int) < (mid : Int) := by omega
                  have HREC := Lib.hid (IH.out a s mid (a : Int) (s : Int) (mid : Int) d1 w2 (by omega) rfl rfl rfl HRa.out hc11 hc12 (by omega) hn HM1.out)
                  go_wp2_with fail
                  refine HREC.out.mono ?_
                  rintro e3 w3 ⟨rfl, d2, ⟨hq1, hq2⟩, hR3, hP3⟩
                  have HRb := Lib.hid hR3
                  have HPb := Lib.hid (HPa.out.trans hP3)
                  have HD2 := Lib.hid (And.intro hq1 hq2)
                  clear hR3 hP3 hq1 hq2 HREC
                  have c0 := HPb.out.cell hB HC.out.1
                  have c1 := HPb.out.cell hB HC.out.2
                  by_cases hc2 : mid < e ∧ e < b
                  · obtain ⟨hc21, hc22⟩ := hc2
                    have hc2a : (mid : Int) < (e : Int) := by omega
                    have hc2b : (e : Int) < (b : Int) := by omega
                    have HM2' : Hid (Merges lt T mid e b d2) := merges_kept HM2.out (fun t ht => HD2.out.1.2.1 t (.inr ht))
                    have HREC2 := Lib.hid (IH.out mid e b (mid : Int) (e : Int) (b : Int) d2 w3 (by omega) rfl rfl rfl HRb.out hc21 hc22 (by omega) hn HM2'.out)
                    go_wp2_with fail
                    all_goals
                      refine HREC2.out.mono ?_
                      rintro e4 w4 ⟨rfl, d3, ⟨hq3, hq4⟩, hR4, hP4⟩
                      have HRc := Lib.hid hR4
                      have HPc := Lib.hid (HPb.out.trans hP4)
                      have HD3 := Lib.hid (And.intro hq3 hq4)
                      clear hR4 hP4 hq3 hq4 HREC2
                      go_wp2_with fail
                      all_goals
                        (first
                          | go_end0
                          | ((try simp only [Exit.inBlock, Exit.then]); refine bodyPost_ret (results_none rfl _ _ _) rfl ?_))
                        have hj := sym_join ⟨by omega, by omega⟩ (by rw [HPP.out.1]; omega) HX.out HD2.out.1 HD2.out.2 HD3.out.1 HD3.out.2
                        exact ⟨rfl, d3, ⟨permIn_trans _ _ _ _ _ HPP.out hj.1, hj.2⟩, HRc.out, HP1.out.trans HPc.out⟩
                  · have hsd : SortT T mid b d2 := merges_one (merges_kept HM2.out (fun t ht => HD2.out.1.2.1 t (.inr ht))) (by omega)
                    have HSD := Lib.hid hsd
                    clear hsd
                    have hj : PermIn a b d1 d2 ∧ SortT T a b d2 := sym_join ⟨by omega, by omega⟩ (by rw [HPP.out.1]; omega) HX.out HD2.out.1 HD2.out.2 (permIn_refl _ _ _) HSD.out
                    have HJ := Lib.hid hj
                    clear hj
                    by_cases hc23 : mid < e
                    · have hc2a : (mid : Int) < (e : Int) := by omega
                      have hc2b : ¬ (e : Int) < (b : Int) := by omega
                      go_wp2_with fail
                      all_goals
                        (first
                          | go_end0
                          | ((try simp only [Exit.inBlock, Exit.then]); refine bodyPost_ret (results_none rfl _ _ _) rfl ?_))
                        exact ⟨rfl, d2, ⟨permIn_trans _ _ _ _ _ HPP.out HJ.out.1, HJ.out.2⟩, HRb.out, HP1.out.trans HPb.out⟩
                    · have hc2a : ¬ (mid : Int) < (e : Int) := by omega
                      go_wp2_with fail
                      all_goals
                        (first
                          | go_end0
                          | ((try simp only [Exit.inBlock, Exit.then]); refine bodyPost_ret (results_none rfl _ _ _) rfl ?_))
                        exact ⟨rfl, d2, ⟨permIn_trans _ _ _ _ _ HPP.out HJ.out.1, HJ.out.2⟩, HRb.out, HP1.out.trans HPb.out⟩
                · have HD2 : Hid (PermIn a mid d1 d1 ∧ SortT T a mid d1) := ⟨permIn_refl _ _ _, merges_one HM1.out (by omega)⟩
                  have HRb := HRa
                  have HPb := HPa
                  obtain ⟨w3, hw3⟩ : ∃ w3, w3 = w2 := ⟨_, rfl⟩
                  rw [← hw3] at HRb HPb ⊢
                  clear hw3
                  by_cases hc13 : a < s
                  · have hc1a : (a : Int) < (s : Int) := by omega
                    have hc1b : ¬ (s : Int) < (mid : Int) := by omega
                    have c0 := HPb.out.cell hB HC.out.1
                    have c1 := HPb.out.cell hB HC.out.2
                    by_cases hc2 : mid < e ∧ e < b
                    · obtain ⟨hc21, hc22⟩ := hc2
                      have hc2a : (mid : Int) < (e : Int) := by omega
                      have hc2b : (e : Int) < (b : Int) := by omega
                      have HM2' : Hid (Merges lt T mid e b d1) := merges_kept HM2.out (fun t ht => HD2.out.1.2.1 t (.inr ht))
                      have HREC2 := Lib.hid (IH.out mid e b (mid : Int) (e : Int) (b : Int) d1 w3 (by omega) rfl rfl rfl HRb.out hc21 hc22 (by omega) hn HM2'.out)
                      go_wp2_with fail
                      all_goals
                        refine HREC2.out.mono ?_
                        rintro e4 w4 ⟨rfl, d3, ⟨hq3, hq4⟩, hR4, hP4⟩
                        have HRc := Lib.hid hR4
                        have HPc := Lib.hid (HPb.out.trans hP4)
                        have HD3 := Lib.hid (And.intro hq3 hq4)
                        clear hR4 hP4 hq3 hq4 HREC2
                        go_wp2_with fail
                        all_goals
                          (first
                            | go_end0
                            | ((try simp only [Exit.inBlock, Exit.then]); refine bodyPost_ret (results_none rfl _ _ _) rfl ?_))
                          have hj := sym_join ⟨by omega, by omega⟩ (by rw [HPP.out.1]; omega) HX.out HD2.out.1 HD2.out.2 HD3.out.1 HD3.out.2
                          exact ⟨rfl, d3, ⟨permIn_trans _ _ _ _ _ HPP.out hj.1, hj.2⟩, HRc.out, HP1.out.trans HPc.out⟩
                    · have hsd : SortT T mid b d1 := merges_one (merges_kept HM2.out (fun t ht => HD2.out.1.2.1 t (.inr ht))) (by omega)
                      have HSD := Lib.hid hsd
                      clear hsd
                      have hj : PermIn a b d1 d1 ∧ SortT T a b d1 := sym_join ⟨by omega, by omega⟩ (by rw [HPP.out.1]; omega) HX.out HD2.out.1 HD2.out.2 (permIn_refl _ _ _) HSD.out
                      have HJ := Lib.hid hj
                      clear hj
                      by_cases hc23 : mid < e
                      · have hc2a : (mid : Int) < (e : Int) := by omega
                        have hc2b : ¬ (e : Int) < (b : Int) := by omega
                        go_wp2_with fail
                        all_goals
                          (first
                            | go_end0
                            | ((try simp only [Exit.inBlock, Exit.then]); refine bodyPost_ret (results_none rfl _ _ _) rfl ?_))
                          exact ⟨rfl, d1, ⟨permIn_trans _ _ _ _ _ HPP.out HJ.out.1, HJ.out.2⟩, HRb.out, HP1.out.trans HPb.out⟩
                      · have hc2a : ¬ (mid : Int) < (e : Int) := by omega
                        go_wp2_with fail
                        all_goals
                          (first
                            | go_end0
                            | ((try simp only [Exit.inBlock, Exit.then]); refine bodyPost_ret (results_none rfl _ _ _) rfl ?_))
                          exact ⟨rfl, d1, ⟨permIn_trans _ _ _ _ _ HPP.out HJ.out.1, HJ.out.2⟩, HRb.out, HP1.out.trans HPb.out⟩
                  · have hc1a : ¬ (a : Int) < (s : Int) := by omega
                    have c0 := HPb.out.cell hB HC.out.1
                    have c1 := HPb.out.cell hB HC.out.2
                    by_cases hc2 : mid < e ∧ e < b
                    · obtain ⟨hc21, hc22⟩ := hc2
                      have hc2a : (mid : Int) < (e : Int) := by omega
                      have hc2b : (e : Int) < (b : Int) := by omega
                      have HM2' : Hid (Merges lt T mid e b d1) := merges_kept HM2.out (fun t ht => HD2.out.1.2.1 t (.inr ht))
                      have HREC2 := Lib.hid (IH.out mid e b (mid : Int) (e : Int) (b : Int) d1 w3 (by omega) rfl rfl rfl HRb.out hc21 hc22 (by omega) hn HM2'.out)
                      go_wp2_with fail
                      all_goals
                        refine HREC2.out.mono ?_
                        rintro e4 w4 ⟨rfl, d3, ⟨hq3, hq4⟩, hR4, hP4⟩
                        have HRc := Lib.hid hR4
                        have HPc := Lib.hid (HPb.out.trans hP4)
                        have HD3 := Lib.hid (And.intro hq3 hq4)
                        clear hR4 hP4 hq3 hq4 HREC2
                        go_wp2_with fail
                        all_goals
                          (first
                            | go_end0
                            | ((try simp only [Exit.inBlock, Exit.then]); refine bodyPost_ret (results_none rfl _ _ _) rfl ?_))
                          have hj := sym_join ⟨by omega, by omega⟩ (by rw [HPP.out.1]; omega) HX.out HD2.out.1 HD2.out.2 HD3.out.1 HD3.out.2
                          exact ⟨rfl, d3, ⟨permIn_trans _ _ _ _ _ HPP.out hj.1, hj.2⟩, HRc.out, HP1.out.trans HPc.out⟩
                    · have hsd : SortT T mid b d1 := merges_one (merges_kept HM2.out (fun t ht => HD2.out.1.2.1 t (.inr ht))) (by omega)
                      have HSD := Lib.hid hsd
                      clear hsd
                      have hj : PermIn a b d1 d1 ∧ SortT T a b d1 := sym_join ⟨by omega, by omega⟩ (by rw [HPP.out.1]; omega) HX.out HD2.out.1 HD2.out.2 (permIn_refl _ _ _) HSD.out
                      have HJ := Lib.hid hj
                      clear hj
                      by_cases hc23 : mid < e
                      · have hc2a : (mid : Int) < (e : Int) := by omega
                        have hc2b : ¬ (e : Int) < (b : Int) := by omega
                        go_wp2_with fail
                        all_goals
                          (first
                            | go_end0
                            | ((try simp only [Exit.inBlock, Exit.then]); refine bodyPost_ret (results_none rfl _ _ _) rfl ?_))
                          exact ⟨rfl, d1, ⟨permIn_trans _ _ _ _ _ HPP.out HJ.out.1, HJ.out.2⟩, HRb.out, HP1.out.trans HPb.out⟩
                      · have hc2a : ¬ (mid : Int) < (e : Int) := by omega
                        go_wp2_with fail
                        all_goals
                          (first
                            | go_end0
                            | ((try simp only [Exit.inBlock, Exit.then]); refine bodyPost_ret (results_none rfl _ _ _) rfl ?_))
                          exact ⟨rfl, d1, ⟨permIn_trans _ _ _ _ _ HPP.out HJ.out.1, HJ.out.2⟩, HRb.out, HP1.out.trans HPb.out⟩
              · have HROR : Hid (RoR n s m e d d) := ror_none d (by omega) hsm hme
                have HRa := HR
                have HPa := HP
                have hrz : ¬ ((s : Int) < (m : Int) ∧ (m : Int) < (e : Int)) := by omega
                obtain ⟨w2, hw2⟩ : ∃ w2, w2 = wr := ⟨_, rfl⟩
                rw [← hw2] at HRa HPa ⊢
                clear hw2 HR HP
                by_cases hsm2 : s < m
                · have hq1 : (s : Int) < (m : Int) := by omega
                  have hq2 : ¬ (m : Int) < (e : Int) := by omega
                  obtain ⟨hm1, hm2, hx⟩ := sym_parts HM.out HCUT.out ⟨by omega, by omega⟩ (by rw [← HE.out]; exact HROR.out.1)
                  rw [← HE.out] at hm2
                  have hp1 : PermIn a b d d := HROR.out.2 a b has heb (by omega)
                  have HM1 := Lib.hid hm1
                  have HM2 := Lib.hid hm2
                  have HX := Lib.hid hx
                  have HPP := Lib.hid hp1
                  clear hm1 hm2 hx hp1
                  have c0 := HPa.out.cell hB HC.out.1
                  have c1 := HPa.out.cell hB HC.out.2
                  by_cases hc1 : a < s ∧ s < mid
                  · obtain ⟨hc11, hc12⟩ := hc1
                    have hc1a : (a : Int) < (s : Int) := by omega
                    have hc1b : (s : Int) < (mid : Int) := by omega
                    have HREC := Lib.hid (IH.out a s mid (a : Int) (s : Int) (mid : Int) d w2 (by omega) rfl rfl rfl HRa.out hc11 hc12 (by omega) hn HM1.out)
                    go_wp2_with fail
                    refine HREC.out.mono ?_
                    rintro e3 w3 ⟨rfl, d2, ⟨hq1, hq2⟩, hR3, hP3⟩
                    have HRb := Lib.hid hR3
                    have HPb := Lib.hid (HPa.out.trans hP3)
                    have HD2 := Lib.hid (And.intro hq1 hq2)
                    clear hR3 hP3 hq1 hq2 HREC
                    have c0 := HPb.out.cell hB HC.out.1
                    have c1 := HPb.out.cell hB HC.out.2
                    by_cases hc2 : mid < e ∧ e < b
                    · obtain ⟨hc21, hc22⟩ := hc2
                      have hc2a : (mid : Int) < (e : Int) := by omega
                      have hc2b : (e : Int) < (b : Int) := by omega
                      have HM2' : Hid (Merges lt T mid e b d2) := merges_kept HM2.out (fun t ht => HD2.out.1.2.1 t (.inr ht))
                      have HREC2 := Lib.hid (IH.out mid e b (mid : Int) (e : Int) (b : Int) d2 w3 (by omega) rfl rfl rfl HRb.out hc21 hc22 (by omega) hn HM2'.out)
                      go_wp2_with fail
                      all_goals
                        refine HREC2.out.mono ?_
                        rintro e4 w4 ⟨rfl, d3, ⟨hq3, hq4⟩, hR4, hP4⟩
                        have HRc := Lib.hid hR4
                        have HPc := Lib.hid (HPb.out.trans hP4)
                        have HD3 := Lib.hid (And.intro hq3 hq4)
                        clear hR4 hP4 hq3 hq4 HREC2
                        go_wp2_with fail
                        all_goals
                          (first
                            | go_end0
                            | ((try simp only [Exit.inBlock, Exit.then]); refine bodyPost_ret (results_none rfl _ _ _) rfl ?_))
                          have hj := sym_join ⟨by omega, by omega⟩ (by rw [HPP.out.1]; omega) HX.out HD2.out.1 HD2.out.2 HD3.out.1 HD3.out.2
                          exact ⟨rfl, d3, ⟨permIn_trans _ _ _ _ _ HPP.out hj.1, hj.2⟩, HRc.out, HP1.out.trans HPc.out⟩
                    · have hsd : SortT T mid b d2 := merges_one (merges_kept HM2.out (fun t ht => HD2.out.1.2.1 t (.inr ht))) (by omega)
                      have HSD := Lib.hid hsd
                      clear hsd
                      have hj : PermIn a b d d2 ∧ SortT T a b d2 := sym_join ⟨by omega, by omega⟩ (by rw [HPP.out.1]; omega) HX.out HD2.out.1 HD2.out.2 (permIn_refl _ _ _) HSD.out
                      have HJ := Lib.hid hj
                      clear hj
                      by_cases hc23 : mid < e
                      · have hc2a : (mid : Int) < (e : Int) := by omega
                        have hc2b : ¬ (e : Int) < (b : Int) := by omega
                        go_wp2_with fail
                        all_goals
                          (first
                            | go_end0
                            | ((try simp only [Exit.inBlock, Exit.then]); refine bodyPost_ret (results_none rfl _ _ _) rfl ?_))
                          exact ⟨rfl, d2, ⟨permIn_trans _ _ _ _ _ HPP.out HJ.out.1, HJ.out.2⟩, HRb.out, HP1.out.trans HPb.out⟩
                      · have hc2a : ¬ (mid : Int) < (e : Int) := by omega
                        go_wp2_with fail
                        all_goals
                          (first
                            | go_end0
                            | ((try simp only [Exit.inBlock, Exit.then]); refine bodyPost_ret (results_none rfl _ _ _) rfl ?_))
                          exact ⟨rfl, d2, ⟨permIn_trans _ _ _ _ _ HPP.out HJ.out.1, HJ.out.2⟩, HRb.out, HP1.out.trans HPb.out⟩
                  · have HD2 : Hid (PermIn a mid d d ∧ SortT T a mid d) := ⟨permIn_refl _ _ _, merges_one HM1.out (by omega)⟩
                    have HRb := HRa
                    have HPb := HPa
                    obtain ⟨w3, hw3⟩ : ∃ w3, w3 = w2 := ⟨_, rfl⟩
                    rw [← hw3] at HRb HPb ⊢
                    clear hw3
                    by_cases hc13 : a < s
                    · have hc1a : (a : Int) < (s : Int) := by omega
                      have hc1b : ¬ (s : Int) < (mid : Int) := by omega
                      have c0 := HPb.out.cell hB HC.out.1
                      have c1 := HPb.out.cell hB HC.out.2
                      by_cases hc2 : mid < e ∧ e < b
                      · obtain ⟨hc21, hc22⟩ := hc2
                        have hc2a : (mid : Int) < (e : Int) := by omega
                        have hc2b : (e : Int) < (b : Int) := by omega
                        have HM2' : Hid (Merges lt T mid e b d) := merges_kept HM2.out (fun t ht => HD2.out.1.2.1 t (.inr ht))
                        have HREC2 := Lib.hid (IH.out mid e b (mid : Int) (e : Int) (b : Int) d w3 (by omega) rfl rfl rfl HRb.out hc21 hc22 (by omega) hn HM2'.out)
                        go_wp2_with fail
                        all_goals
                          refine HREC2.out.mono ?_
                          rintro e4 w4 ⟨rfl, d3, ⟨hq3, hq4⟩, hR4, hP4⟩
                          have HRc := Lib.hid hR4
                          have HPc := Lib.hid (HPb.out.trans hP4)
                          have HD3 := Lib.hid (And.intro hq3 hq4)
                          clear hR4 hP4 hq3 hq4 HREC2
                          go_wp2_with fail
                          all_goals
                            (first
                              | go_end0
                              | ((try simp only [Exit.inBlock, Exit.then]); refine bodyPost_ret (results_none rfl _ _ _) rfl ?_))
                            have hj := sym_join ⟨by omega, by omega⟩ (by rw [HPP.out.1]; omega) HX.out HD2.out.1 HD2.out.2 HD3.out.1 HD3.out.2
                            exact ⟨rfl, d3, ⟨permIn_trans _ _ _ _ _ HPP.out hj.1, hj.2⟩, HRc.out, HP1.out.trans HPc.out⟩
                      · have hsd : SortT T mid b d := merges_one (merges_kept HM2.out (fun t ht => HD2.out.1.2.1 t (.inr ht))) (by omega)
                        have HSD := Lib.hid hsd
                        clear hsd
                        have hj : PermIn a b d d ∧ SortT T a b d := sym_join ⟨by omega, by omega⟩ (by rw [HPP.out.1]; omega) HX.out HD2.out.1 HD2.out.2 (permIn_refl _ _ _) HSD.out
                        have HJ := Lib.hid hj
                        clear hj
                        by_cases hc23 : mid < e
                        · have hc2a : (mid : Int) < (e : Int) := by omega
                          have hc2b : ¬ (e : Int) < (b : Int) := by omega
                          go_wp2_with fail
                          all_goals
                            (first
                              | go_end0
                              | ((try simp only [Exit.inBlock, Exit.then]); refine bodyPost_ret (results_none rfl _ _ _) rfl ?_))
                            exact ⟨rfl, d, ⟨permIn_trans _ _ _ _ _ HPP.out HJ.out.1, HJ.out.2⟩, HRb.out, HP1.out.trans HPb.out⟩
                        · have hc2a : ¬ (mid : Int) < (e : Int) := by omega
                          go_wp2_with fail
                          all_goals
                            (first
                              | go_end0
                              | ((try simp only [Exit.inBlock, Exit.then]); refine bodyPost_ret (results_none rfl _ _ _) rfl ?_))
                            exact ⟨rfl, d, ⟨permIn_trans _ _ _ _ _ HPP.out HJ.out.1, HJ.out.2⟩, HRb.out, HP1.out.trans HPb.out⟩
                    · have hc1a : ¬ (a : Int) < (s : Int) := by omega
                      have c0 := HPb.out.cell hB HC.out.1
                      have c1 := HPb.out.cell hB HC.out.2
                      by_cases hc2 : mid < e ∧ e < b
                      · obtain ⟨hc21, hc22⟩ := hc2
                        have hc2a : (mid : Int) < (e : Int) := by omega
                        have hc2b : (e : Int) < (b : Int) := by omega
                        have HM2' : Hid (Merges lt T mid e b d) := merges_kept HM2.out (fun t ht => HD2.out.1.2.1 t (.inr ht))
                        have HREC2 := Lib.hid (IH.out mid e b (mid : Int) (e : Int) (b : Int) d w3 (by omega) rfl rfl rfl HRb.out hc21 hc22 (by omega) hn HM2'.out)
                        go_wp2_with fail
                        all_goals
                          refine HREC2.out.mono ?_
                          rintro e4 w4 ⟨rfl, d3, ⟨hq3, hq4⟩, hR4, hP4⟩
                          have HRc := Lib.hid hR4
                          have HPc := Lib.hid (HPb.out.trans hP4)
                          have HD3 := Lib.hid (And.intro hq3 hq4)
                          clear hR4 hP4 hq3 hq4 HREC2
                          go_wp2_with fail
                          all_goals
                            (first
                              | go_end0
                              | ((try simp only [Exit.inBlock, Exit.then]); refine bodyPost_ret (results_none rfl _ _ _) rfl ?_))
                            have hj := sym_join ⟨by omega, by omega⟩ (by rw [HPP.out.1]; omega) HX.out HD2.out.1 HD2.out.2 HD3.out.1 HD3.out.2
                            exact ⟨rfl, d3, ⟨permIn_trans _ _ _ _ _ HPP.out hj.1, hj.2⟩, HRc.out, HP1.out.trans HPc.out⟩
                      · have hsd : SortT T mid b d := merges_one (merges_kept HM2.out (fun t ht => HD2.out.1.2.1 t (.inr ht))) (by omega)
                        have HSD := Lib.hid hsd
                        clear hsd
                        have hj : PermIn a b d d ∧ SortT T a b d := sym_join ⟨by omega, by omega⟩ (by rw [HPP.out.1]; omega) HX.out HD2.out.1 HD2.out.2 (permIn_refl _ _ _) HSD.out
                        have HJ := Lib.hid hj
                        clear hj
                        by_cases hc23 : mid < e
                        · have hc2a : (mid : Int) < (e : Int) := by omega
                          have hc2b : ¬ (e : Int) < (b : Int) := by omega
                          go_wp2_with fail
                          all_goals
                            (first
                              | go_end0
                              | ((try simp only [Exit.inBlock, Exit.then]); refine bodyPost_ret (results_none rfl _ _ _) rfl ?_))
                            exact ⟨rfl, d, ⟨permIn_trans _ _ _ _ _ HPP.out HJ.out.1, HJ.out.2⟩, HRb.out, HP1.out.trans HPb.out⟩
                        · have hc2a : ¬ (mid : Int) < (e : Int) := by omega
                          go_wp2_with fail
                          all_goals
                            (first
                              | go_end0
                              | ((try simp only [Exit.inBlock, Exit.then]); refine bodyPost_ret (results_none rfl _ _ _) rfl ?_))
                            exact ⟨rfl, d, ⟨permIn_trans _ _ _ _ _ HPP.out HJ.out.1, HJ.out.2⟩, HRb.out, HP1.out.trans HPb.out⟩
                · have hq1 : ¬ (s : Int) < (m : Int) := by omega
                  obtain ⟨hm1, hm2, hx⟩ := sym_parts HM.out HCUT.out ⟨by omega, by omega⟩ (by rw [← HE.out]; exact HROR.out.1)
                  rw [← HE.out] at hm2
                  have hp1 : PermIn a b d d := HROR.out.2 a b has heb (by omega)
                  have HM1 := Lib.hid hm1
                  have HM2 := Lib.hid hm2
                  have HX := Lib.hid hx
                  have HPP := Lib.hid hp1
                  clear hm1 hm2 hx hp1
                  have c0 := HPa.out.cell hB HC.out.1
                  have c1 := HPa.out.cell hB HC.out.2
                  by_cases hc1 : a < s ∧ s < mid
                  · obtain ⟨hc11, hc12⟩ := hc1
                    have hc1a : (a : Int) < (s : Int) := by omega
                    have hc1b : (s : Int) < (mid : Int) := by omega
                    have HREC := Lib.hid (IH.out a s mid (a : Int) (s : Int) (mid : Int) d w2 (by omega) rfl rfl rfl HRa.out hc11 hc12 (by omega) hn HM1.out)
                    go_wp2_with fail
                    refine HREC.out.mono ?_
                    rintro e3 w3 ⟨rfl, d2, ⟨hq1, hq2⟩, hR3, hP3⟩
                    have HRb := Lib.hid hR3
                    have HPb := Lib.hid (HPa.out.trans hP3)
                    have HD2 := Lib.hid (And.intro hq1 hq2)
                    clear hR3 hP3 hq1 hq2 HREC
                    have c0 := HPb.out.cell hB HC.out.1
                    have c1 := HPb.out.cell hB HC.out.2
                    by_cases hc2 : mid < e ∧ e < b
                    · obtain ⟨hc21, hc22⟩ := hc2
                      have hc2a : (mid : Int) < (e : Int) := by omega
                      have hc2b : (e : Int) < (b : Int) := by omega
                      have HM2' : Hid (Merges lt T mid e b d2) := merges_kept HM2.out (fun t ht => HD2.out.1.2.1 t (.inr ht))
                      have HREC2 := Lib.hid (IH.out mid e b (mid : Int) (e : Int) (b : Int) d2 w3 (by omega) rfl rfl rfl HRb.out hc21 hc22 (by omega) hn HM2'.out)
                      go_wp2_with fail
                      all_goals
                        refine HREC2.out.mono ?_
                        rintro e4 w4 ⟨rfl, d3, ⟨hq3, hq4⟩, hR4, hP4⟩
                        have HRc := Lib.hid hR4
                        have HPc := Lib.hid (HPb.out.trans hP4)
                        have HD3 := Lib.hid (And.intro hq3 hq4)
                        clear hR4 hP4 hq3 hq4 HREC2
                        go_wp2_with fail
                        all_goals
                          (first
                            | go_end0
                            | ((try simp only [Exit.inBlock, Exit.then]); refine bodyPost_ret (results_none rfl _ _ _) rfl ?_))
                          have hj := sym_join ⟨by omega, by omega⟩ (by rw [HPP.out.1]; omega) HX.out HD2.out.1 HD2.out.2 HD3.out.1 HD3.out.2
                          exact ⟨rfl, d3, ⟨permIn_trans _ _ _ _ _ HPP.out hj.1, hj.2⟩, HRc.out, HP1.out.trans HPc.out⟩
                    · have hsd : SortT T mid b d2 := merges_one (merges_kept HM2.out (fun t ht => HD2.out.1.2.1 t (.inr ht))) (by omega)
                      have HSD := Lib.hid hsd
                      clear hsd
                      have hj : PermIn a b d d2 ∧ SortT T a b d2 := sym_join ⟨by omega, by omega⟩ (by rw [HPP.out.1]; omega) HX.out HD2.out.1 HD2.out.2 (permIn_refl _ _ _) HSD.out
                      have HJ := Lib.hid hj
                      clear hj
                      by_cases hc23 : mid < e
                      · have hc2a : (mid : Int) < (e : Int) := by omega
                        have hc2b : ¬ (e : Int) < (b : Int) := by omega
                        go_wp2_with fail
                        all_goals
                          (first
                            | go_end0
                            | ((try simp only [Exit.inBlock, Exit.then]); refine bodyPost_ret (results_none rfl _ _ _) rfl ?_))
                          exact ⟨rfl, d2, ⟨permIn_trans _ _ _ _ _ HPP.out HJ.out.1, HJ.out.2⟩, HRb.out, HP1.out.trans HPb.out⟩
                      · have hc2a : ¬ (mid : Int) < (e : Int) := by omega
                        go_wp2_with fail
                        all_goals
                          (first
                            | go_end0
                            | ((try simp only [Exit.inBlock, Exit.then]); refine bodyPost_ret (results_none rfl _ _ _) rfl ?_))
                          exact ⟨rfl, d2, ⟨permIn_trans _ _ _ _ _ HPP.out HJ.out.1, HJ.out.2⟩, HRb.out, HP1.out.trans HPb.out⟩
                  · have HD2 : Hid (PermIn a mid d d ∧ SortT T a mid d) := ⟨permIn_refl _ _ _, merges_one HM1.out (by omega)⟩
                    have HRb := HRa
                    have HPb := HPa
                    obtain ⟨w3, hw3⟩ : ∃ w3, w3 = w2 := ⟨_, rfl⟩
                    rw [← hw3] at HRb HPb ⊢
                    clear hw3
                    by_cases hc13 : a < s
                    · have hc1a : (a : Int) < (s : Int) := by omega
                      have hc1b : ¬ (s : Int) < (mid : Int) := by omega
                      have c0 := HPb.out.cell hB HC.out.1
                      have c1 := HPb.out.cell hB HC.out.2
                      by_cases hc2 : mid < e ∧ e < b
                      · obtain ⟨hc21, hc22⟩ := hc2
                        have hc2a : (mid : Int) < (e : Int) := by omega
                        have hc2b : (e : Int) < (b : Int) := by omega
                        have HM2' : Hid (Merges lt T mid e b d) := merges_kept HM2.out (fun t ht => HD2.out.1.2.1 t (.inr ht))
                        have HREC2 := Lib.hid (IH.out mid e b (mid : Int) (e : Int) (b : Int) d w3 (by omega) rfl rfl rfl HRb.out hc21 hc22 (by omega) hn HM2'.out)
                        go_wp2_with fail
                        all_goals
                          refine HREC2.out.mono ?_
                          rintro e4 w4 ⟨rfl, d3, ⟨hq3, hq4⟩, hR4, hP4⟩
                          have HRc := Lib.hid hR4
                          have HPc := Lib.hid (HPb.out.trans hP4)
                          have HD3 := Lib.hid (And.intro hq3 hq4)
                          clear hR4 hP4 hq3 hq4 HREC2
                          go_wp2_with fail
                          all_goals
                            (first
                              | go_end0
                              | ((try simp only [Exit.inBlock, Exit.then]); refine bodyPost_ret (results_none rfl _ _ _) rfl ?_))
                            have hj := sym_join ⟨by omega, by omega⟩ (by rw [HPP.out.1]; omega) HX.out HD2.out.1 HD2.out.2 HD3.out.1 HD3.out.2
                            exact ⟨rfl, d3, ⟨permIn_trans _ _ _ _ _ HPP.out hj.1, hj.2⟩, HRc.out, HP1.out.trans HPc.out⟩
                      · have hsd : SortT T mid b d := merges_one (merges_kept HM2.out (fun t ht => HD2.out.1.2.1 t (.inr ht))) (by omega)
                        have HSD := Lib.hid hsd
                        clear hsd
                        have hj : PermIn a b d d ∧ SortT T a b d := sym_join ⟨by omega, by omega⟩ (by rw [HPP.out.1]; omega) HX.out HD2.out.1 HD2.out.2 (permIn_refl _ _ _) HSD.out
                        have HJ := Lib.hid hj
                        clear hj
                        by_cases hc23 : mid < e
                        · have hc2a : (mid : Int) < (e : Int) := by omega
                          have hc2b : ¬ (e : Int) < (b : Int) := by omega
                          go_wp2_with fail
                          all_goals
                            (first
                              | go_end0
                              | ((try simp only [Exit.inBlock, Exit.then]); refine bodyPost_ret (results_none rfl _ _ _) rfl ?_))
                            exact ⟨rfl, d, ⟨permIn_trans _ _ _ _ _ HPP.out HJ.out.1, HJ.out.2⟩, HRb.out, HP1.out.trans HPb.out⟩
                        · have hc2a : ¬ (mid : Int) < (e : Int) := by omega
                          go_wp2_with fail
                          all_goals
                            (first
                              | go_end0
                              | ((try simp only [Exit.inBlock, Exit.then]); refine bodyPost_ret (results_none rfl _ _ _) rfl ?_))
                            exact ⟨rfl, d, ⟨permIn_trans _ _ _ _ _ HPP.out HJ.out.1, HJ.out.2⟩, HRb.out, HP1.out.trans HPb.out⟩
                    · have hc1a : ¬ (a : Int) < (s : Int) := by omega
                      have c0 := HPb.out.cell hB HC.out.1
                      have c1 := HPb.out.cell hB HC.out.2
                      by_cases hc2 : mid < e ∧ e < b
                      · obtain ⟨hc21, hc22⟩ := hc2
                        have hc2a : (mid : Int) < (e : Int) := by omega
                        have hc2b : (e : Int) < (b : Int) := by omega
                        have HM2' : Hid (Merges lt T mid e b d) := merges_kept HM2.out (fun t ht => HD2.out.1.2.1 t (.inr ht))
                        have HREC2 := Lib.hid (IH.out mid e b (mid : Int) (e : Int) (b : Int) d w3 (by omega) rfl rfl rfl HRb.out hc21 hc22 (by omega) hn HM2'.out)
                        go_wp2_with fail
                        all_goals
                          refine HREC2.out.mono ?_
                          rintro e4 w4 ⟨rfl, d3, ⟨hq3, hq4⟩, hR4, hP4⟩
                          have HRc := Lib.hid hR4
                          have HPc := Lib.hid (HPb.out.trans hP4)
                          have HD3 := Lib.hid (And.intro hq3 hq4)
                          clear hR4 hP4 hq3 hq4 HREC2
                          go_wp2_with fail
                          all_goals
                            (first
                              | go_end0
                              | ((try simp only [Exit.inBlock, Exit.then]); refine bodyPost_ret (results_none rfl _ _ _) rfl ?_))
                            have hj := sym_join ⟨by omega, by omega⟩ (by rw [HPP.out.1]; omega) HX.out HD2.out.1 HD2.out.2 HD3.out.1 HD3.out.2
                            exact ⟨rfl, d3, ⟨permIn_trans _ _ _ _ _ HPP.out hj.1, hj.2⟩, HRc.out, HP1.out.trans HPc.out⟩
                      · have hsd : SortT T mid b d := merges_one (merges_kept HM2.out (fun t ht => HD2.out.1.2.1 t (.inr ht))) (by omega)
                        have HSD := Lib.hid hsd
                        clear hsd
                        have hj : PermIn a b d d ∧ SortT T a b d := sym_join ⟨by omega, by omega⟩ (by rw [HPP.out.1]; omega) HX.out HD2.out.1 HD2.out.2 (permIn_refl _ _ _) HSD.out
                        have HJ := Lib.hid hj
                        clear hj
                        by_cases hc23 : mid < e
                        · have hc2a : (mid : Int) < (e : Int) := by omega
                          have hc2b : ¬ (e : Int) < (b : Int) := by omega
                          go_wp2_with fail
                          all_goals
                            (first
                              | go_end0
                              | ((try simp only [Exit.inBlock, Exit.then]); refine bodyPost_ret (results_none rfl _ _ _) rfl ?_))
                            exact ⟨rfl, d, ⟨permIn_trans _ _ _ _ _ HPP.out HJ.out.1, HJ.out.2⟩, HRb.out, HP1.out.trans HPb.out⟩
                        · have hc2a : ¬ (mid : Int) < (e : Int) := by omega
                          go_wp2_with fail
                          all_goals
                            (first
                              | go_end0
                              | ((try simp only [Exit.inBlock, Exit.then]); refine bodyPost_ret (results_none rfl _ _ _) rfl ?_))
                            exact ⟨rfl, d, ⟨permIn_trans _ _ _ _ _ HPP.out HJ.out.1, HJ.out.2⟩, HRb.out, HP1.out.trans HPb.out⟩

end

end Go.Proofs.Ytiioojnoggcnmaa

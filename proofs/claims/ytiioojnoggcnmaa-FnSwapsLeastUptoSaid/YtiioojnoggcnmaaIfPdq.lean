/-
  What is proved here: sort.pdqsort over a relation that comparing and exchanging keep, with a bound on the number of exchanges; condition: fewer than 2^60 elements. Written by wip/gen/ifpdq.py.
-/
import Derived.Test.YtiioojnoggcnmaaIfStab
import Derived.Test.YtiioojnoggcnmaaIfHeap
import Derived.Test.YtiioojnoggcnmaaIfSmall
import Derived.Test.YtiioojnoggcnmaaIfPartial
import Derived.Test.YtiioojnoggcnmaaIfPart
import Derived.Test.YtiioojnoggcnmaaIfPiv
import Derived.Shelf.GgSortFunc.Pdq
namespace Go.Proofs.Ytiioojnoggcnmaa
open Go.RowKit Go.Sort
set_option linter.unusedVariables false
set_option linter.unusedSectionVars false

section
variable {α : Type} [Inhabited α] {lt : α → α → Bool} {B n : Nat} {R : Nat → World → Array α → Prop} {Ty : TypeId} {rv : Value} {gl gs : Nat} {rl rs : Value}

theorem pq_step {E c0 T L L' x : Nat} (h1 : L ≤ T) (h2 : L' + x + 1 ≤ L) : c0 + E * (T - L) + E + E * x ≤ c0 + E * (T - L') := by
  have h : E * (T - L) + E + E * x = E * (T - L + 1 + x) := by rw [Nat.mul_add, Nat.mul_add, Nat.mul_one]
  have h3 := Nat.mul_le_mul_left E (show T - L + 1 + x ≤ T - L' by omega)
  omega
theorem pq_end {E c0 T L x : Nat} (h1 : L ≤ T) (hx : x ≤ E * L) : c0 + E * (T - L) + x ≤ c0 + E * T := by
  have h : E * (T - L) + E * L = E * T := by rw [← Nat.mul_add]; congr 1; omega
  omega
theorem pq_one {E L : Nat} (h : 1 ≤ L) : E ≤ E * L := by
  have := Nat.mul_le_mul_left E h
  omega
theorem pq_heap {E L : Nat} (h : 2 * (L + 1) ≤ E) : (L + 1) * L + L * (L + 1) ≤ E * L := by
  have h1 := Nat.mul_le_mul_right L h
  have h2 : 2 * (L + 1) * L = (L + 1) * L + (L + 1) * L := by rw [Nat.mul_assoc]; omega
  rw [Nat.mul_comm L (L + 1)]
  omega


set_option maxHeartbeats 25600000 in
set_option maxRecDepth 1000000 in
theorem pdqsort_if (K : IfRel Try.prog lt B n R Ty rv gl gs rl rs) (hO : SWO lt) (hn : n < 1152921504606846976) :
    ∀ (N c0 a b limit : Nat) (za zb zl : Int) (d : Array α) (w : World), b - a < N → za = a → zb = b → zl = limit → R c0 w d → a ≤ b → b ≤ n → limit < 4611686018427387904 → Sort.Below lt a b d →
    Calls Try.prog 53 #[.iface Ty rv, .int .i64 za, .int .i64 zb, .int .i64 zl] w (TurnedI B R (c0 + 20 * (n + 1) * (b - a)) (fun d' => d' = pdq lt d a b limit true true) w) := by
  obtain ⟨E, hE⟩ : ∃ E, E = 20 * (n + 1) := ⟨_, rfl⟩
  rw [← hE]
  have HE := Lib.hid hE
  clear hE
  have eL := K.eL
  have HK := Lib.hid K
  clear K
  intro N
  induction N with
  | zero => intro _ _ _ _ _ _ _ _ _ h; exact absurd h (Nat.not_lt_zero _)
  | succ N ih0 =>
    intro c0 a b limit za zb zl d w hN hza hzb hzl hR hab hb hlimit hBel0
    subst hza hzb hzl
    have IH := Lib.hid ih0
    have HR0 := Lib.hid hR
    clear ih0 hR
    go_enter Try.func53, Try.ntmps53
    go_wp2
    go_loopg [1, 2, 3, 8, 9] (b - a) (fun k s1 s2 s3 s8 s9 wr => ∃ (a' b' lim : Nat) (wb wp : Bool) (dk : Array α), s1 = .int .i64 a' ∧ s2 = .int .i64 b' ∧ s3 = .int .i64 lim ∧ s8 = .bool wb ∧ s9 = .bool wp ∧
      a' ≤ b' ∧ b' ≤ n ∧ b' - a' ≤ k ∧ k ≤ b - a ∧ lim ≤ limit ∧ Sort.Below lt a' b' dk ∧ Hid (R (c0 + E * ((b - a) - (b' - a'))) wr dk) ∧ Hid (Past B w wr) ∧ pdq lt dk a' b' lim wb wp = pdq lt d a b limit true true)
    case atStart => exact ⟨a, b, limit, true, true, d, rfl, rfl, rfl, rfl, rfl, hab, hb, Nat.le_refl _, Nat.le_refl _, Nat.le_refl _, hBel0, HK.out.more HR0.out (Nat.le_add_right _ _), Past.refl _ _, rfl⟩
    case round =>
      clear HR0 hBel0
      obtain ⟨a', b', lim, wb, wp, dk, rfl, rfl, rfl, rfl, rfl, hab', hb', hk, hkN, hlim, hBel, HR, HP, heq⟩ := hrel
      have A : Aside (pdq lt dk a' b' lim wb wp = pdq lt d a b limit true true) := heq
      clear heq
      have hds : dk.size = n := (HK.out.size HR.out).2
      obtain ⟨q, hq⟩ : ∃ q, q = c0 + E * ((b - a) - (b' - a')) := ⟨_, rfl⟩
      have HQ := Lib.hid hq
      rw [← hq] at HR
      clear hq
      by_cases h12 : b' - a' ≤ 12
      · have h12z : (b' : Int) - (a' : Int) ≤ 12 := by omega
        have HC := Lib.hid (insertion_if HK.out q a' b' (a' : Int) (b' : Int) rfl rfl dk wr HR.out hab' hb' hn)
        go_wp2_with fail
        refine HC.out.mono ?_
        rintro e w1 ⟨rfl, d1, rfl, hR1, hP1⟩
        have HR1 := Lib.hid hR1
        have HP1 := Lib.hid (HP.out.trans hP1)
        clear hR1 hP1 HC
        go_wp2_with fail
        (try simp only [Exit.inBlock, Exit.then]); refine bodyPost_ret (results_none rfl _ _ _) rfl ?_
        exact ⟨rfl, _, by rw [← A.out, pdq_small h12], HK.out.more HR1.out (by rw [HQ.out]; exact pq_end (by omega) (Nat.mul_le_mul_right _ (by have := HE.out; omega))), HP1.out⟩
      · have h12z : ¬ ((b' : Int) - (a' : Int) ≤ 12) := by omega
        by_cases hl0 : lim = 0
        · subst hl0
          have HC := Lib.hid (heapSort_if HK.out q a' b' (a' : Int) (b' : Int) rfl rfl dk wr HR.out hab' hb' hn)
          go_wp2_with fail
          refine HC.out.mono ?_
          rintro e w1 ⟨rfl, d1, rfl, hR1, hP1⟩
          have HR1 := Lib.hid hR1
          have HP1 := Lib.hid (HP.out.trans hP1)
          clear hR1 hP1 HC
          go_wp2_with fail
          (try simp only [Exit.inBlock, Exit.then]); refine bodyPost_ret (results_none rfl _ _ _) rfl ?_
          exact ⟨rfl, _, by rw [← A.out, pdq_heap h12 rfl], HK.out.more HR1.out (by rw [HQ.out, Nat.add_assoc]; exact pq_end (by omega) (pq_heap (by have := HE.out; omega))), HP1.out⟩
        · have hl0z : ¬ ((lim : Int) = 0) := by omega
          obtain ⟨s1, B1, hc1, s2, B2, hpv, s3, B3⟩ := rd_facts (lt := lt) (limit := lim) (wb := wb) (wp := wp) hO partialInsertionSort_holds reverseRange_holds (show a' < b' by omega) (show b' ≤ dk.size by omega) hBel
          -- 'if !wasBalanced { breakPatterns; limit-- }'
          go_upto_if 35 with fail
          go_cut [3] from 19 (fun s3 wc => s3 = .int .i64 (rd lt dk a' b' lim wb wp).lim ∧ Hid (R (q + 3) wc (rd lt dk a' b' lim wb wp).d1) ∧ Hid (Past B w wc))
          case first =>
            cases wb
            · have HC := Lib.hid (breakPatterns_if HK.out q a' b' (a' : Int) (b' : Int) rfl rfl dk wr HR.out hab' hb' hn)
              go_wp2_with fail
              refine HC.out.mono ?_
              rintro e w1 ⟨rfl, d1, hd1, hR1, hP1⟩
              have HR1 : Hid (R (q + 3) w1 (breakPatterns dk a' b')) := by rw [← hd1]; exact hR1
              have HP1 := Lib.hid (HP.out.trans hP1)
              clear hR1 hP1 HC hd1
              go_wp2_with fail
              go_meet
              case rel =>
                refine ⟨?_, HR1.out, HP1.out⟩
                show Value.int .i64 ((lim : Int) - 1) = Value.int .i64 ((lim - 1 : Nat) : Int)
                congr 1
                omega
            · go_wp2_with fail
              go_meet
              case rel => exact ⟨rfl, HK.out.more HR.out (by omega), HP.out⟩
          case rest =>
            obtain ⟨rfl, HR1, HP1⟩ := hcut
            clear HR HP
            have HC : Hid (Calls Try.prog 67 #[.iface Ty rv, .int .i64 a', .int .i64 b'] wc fun e w' => e = .returned (.tuple #[.int .i64 (rd lt dk a' b' lim wb wp).c.1, .int .i64 (hintCode (rd lt dk a' b' lim wb wp).c.2)]) ∧ R (q + 3) w' (rd lt dk a' b' lim wb wp).d1 ∧ Past B wc w') :=
              choosePivot_if HK.out (q + 3) a' b' (a' : Int) (b' : Int) rfl rfl (rd lt dk a' b' lim wb wp).d1 wc HR1.out (by omega) hb' hn
            go_upto_if 50 with (go_at_call 67; refine HC.out.mono ?_; rintro e w2 ⟨rfl, hR2, hP2⟩)
            have HR2 := Lib.hid hR2
            have HP2 := Lib.hid (HP1.out.trans hP2)
            clear hR2 hP2 HC HR1 HP1
            -- 'if hint == decreasingHint { reverseRange; pivot = ..; hint = increasingHint }'
            go_cut [11, 12] from 19 (fun s11 s12 wc => s11 = .int .i64 (rd lt dk a' b' lim wb wp).pivot ∧ s12 = .int .i64 (hintCode (rd lt dk a' b' lim wb wp).hint) ∧ Hid (R (q + 3 + n) wc (rd lt dk a' b' lim wb wp).d2) ∧ Hid (Past B w wc))
            case first =>
              by_cases hh : (rd lt dk a' b' lim wb wp).c.2 = .decreasing
              · have hcode : hintCode (rd lt dk a' b' lim wb wp).c.2 = 2 := by rw [hh]; rfl
                obtain ⟨e2, epv, eht⟩ := rd_dec hh
                have HC := Lib.hid (reverseRange_if HK.out (q + 3) a' b' (a' : Int) (b' : Int) rfl rfl (rd lt dk a' b' lim wb wp).d1 w2 HR2.out hab' hb' hn)
                go_wp2_with fail
                refine HC.out.mono ?_
                rintro e w3 ⟨rfl, d3, hd3, hR3, hP3⟩
                have HR3 : Hid (R (q + 3 + n) w3 (rd lt dk a' b' lim wb wp).d2) := by show R _ _ _; rw [e2, ← hd3]; exact HK.out.more hR3 (by omega)
                have HP3 := Lib.hid (HP2.out.trans hP3)
                clear hR3 hP3 HC hd3
                go_wp2_with fail
                go_meet
                case rel =>
                  refine ⟨?_, by rw [eht]; rfl, HR3.out, HP3.out⟩
                  rw [epv]
                  congr 1
                  omega
              · have hcode : ¬ (hintCode (rd lt dk a' b' lim wb wp).c.2 = 2) := fun h => hh (hintCode_two h)
                obtain ⟨e2, epv, eht⟩ := rd_not hh
                go_wp2_with fail
                go_meet
                case rel => exact ⟨by rw [epv], by rw [eht], by show R _ _ _; rw [e2]; exact HK.out.more HR2.out (by omega), HP2.out⟩
            case rest =>
              obtain ⟨rfl, rfl, HR3, HP3⟩ := hcut
              clear HR2 HP2
              go_upto_region 15 with fail
              go_cut [12, 68] from 19 (fun s12 s68 wx => s12 = .int .i64 (hintCode (rd lt dk a' b' lim wb wp).hint) ∧ s68 = .bool (wb && wp && decide ((rd lt dk a' b' lim wb wp).hint = .increasing)) ∧ wx = wc)
              case first =>
                cases wb <;> cases wp <;> cases hh3 : (rd lt dk a' b' lim _ _).hint <;>
                  (have hcode3 := congrArg hintCode hh3
                   simp only [hintCode] at hcode3
                   go_wp2_with fail
                   go_meet
                   exact ⟨by simp [hh3, hintCode], by simp [hh3, hintCode], rfl⟩)
              case rest =>
                obtain ⟨rfl, rfl, rfl⟩ := hcut
                -- 'if .. { if partialInsertionSort(..) { return } }'
                go_upto_if 68 with fail
                go_cut [] from 19 (fun wx => (rd lt dk a' b' lim wb wp).pi.2 = false ∧ Hid (R (q + 3 + n + 5 * (n + 1)) wx (rd lt dk a' b' lim wb wp).pi.1) ∧ Hid (Past B w wx))
                case first =>
                  cases h68 : (wb && wp && decide ((rd lt dk a' b' lim wb wp).hint = .increasing))
                  · have epi := rd_pi_no h68
                    go_wp2_with fail
                    go_meet
                    case rel => exact ⟨by rw [epi], by show R _ _ _; rw [epi]; exact HK.out.more HR3.out (by omega), HP3.out⟩
                  · have epi := rd_pi_yes h68
                    have hc19 := partialInsertionSort_if HK.out (q + 3 + n) a' b' (a' : Int) (b' : Int) rfl rfl (rd lt dk a' b' lim wb wp).d2 wc HR3.out (by omega) hb' hn
                    rw [← epi] at hc19
                    have HC := Lib.hid hc19
                    clear hc19
                    go_wp2_with (go_at_call 69; refine HC.out.mono ?_; rintro e w4 ⟨rfl, hR4, hP4⟩; have HR4 := Lib.hid hR4; have HP4 := Lib.hid (HP3.out.trans hP4); clear hR4 hP4)
                    all_goals first
                      | (have hp2 : (rd lt dk a' b' lim wb wp).pi.2 = false := by first | assumption | (rw [epi]; assumption)
                         go_meet
                         exact ⟨hp2, HR4.out, HP4.out⟩)
                      | (have hp2 : (rd lt dk a' b' lim wb wp).pi.2 = true := by first | assumption | (rw [epi]; assumption)
                         (try simp only [Exit.inBlock, Exit.then]); refine bodyPost_ret (results_none rfl _ _ _) rfl ?_
                         exact ⟨rfl, _, by rw [← A.out, pdq_done h12 hl0 hp2], HK.out.more HR4.out (by rw [HQ.out, Nat.add_assoc, Nat.add_assoc]; exact pq_end (by omega) (Nat.le_trans (by have := HE.out; omega) (pq_one (by omega)))), HP4.out⟩)
                case rest =>
                  obtain ⟨hp2, HR5, HP5⟩ := hcut
                  clear HR3 HP3
                  -- 'a > 0 && !data.Less(a-1, pivot)'
                  go_upto_region 17 with fail
                  go_cut [82] from 19 (fun s82 wx => s82 = .bool (decide (a' > 0) && !lt (rd lt dk a' b' lim wb wp).pi.1[a' - 1]! (rd lt dk a' b' lim wb wp).pi.1[(rd lt dk a' b' lim wb wp).pivot]!) ∧ Hid (R (q + 3 + n + 5 * (n + 1)) wx (rd lt dk a' b' lim wb wp).pi.1) ∧ Hid (Past B w wx))
                  case first =>
                    rcases Nat.eq_zero_or_pos a' with ha0 | ha0
                    · have ha0z : decide ((a' : Int) > 0) = false := decide_eq_false (by omega)
                      go_wp2_with fail
                      go_meet
                      case rel => exact ⟨by simp [ha0], HR5.out, HP5.out⟩
                    · have ha0z : (a' : Int) > 0 := by omega
                      have mL := HK.out.mL HR5.out
                      have hl := HK.out.less (a' - 1) (rd lt dk a' b' lim wb wp).pivot ((a' : Int) - 1) ((rd lt dk a' b' lim wb wp).pivot : Int) HR5.out (by omega) (by omega) (by omega) rfl
                      cases hlv : lt (rd lt dk a' b' lim wb wp).pi.1[a' - 1]! (rd lt dk a' b' lim wb wp).pi.1[(rd lt dk a' b' lim wb wp).pivot]! <;>
                        (rw [hlv] at hl
                         have HL := Lib.hid hl
                         clear hl
                         go_wp2_with (go_at_fn gl; refine HL.out.mono ?_; rintro e w6 ⟨rfl, hR6, hP6⟩)
                         have HR6 := Lib.hid hR6
                         have HP6 := Lib.hid (HP5.out.trans hP6)
                         clear hR6 hP6
                         go_meet
                         exact ⟨by simp [ha0, hlv], HR6.out, HP6.out⟩)
                  case rest =>
                    obtain ⟨rfl, HR6, HP6⟩ := hcut
                    clear HR5 HP5
                    cases h87 : (decide (a' > 0) && !lt (rd lt dk a' b' lim wb wp).pi.1[a' - 1]! (rd lt dk a' b' lim wb wp).pi.1[(rd lt dk a' b' lim wb wp).pivot]!)
                    · obtain ⟨mid, ap, d4, hx⟩ : ∃ mid ap d4, partition lt (rd lt dk a' b' lim wb wp).pi.1 a' b' (rd lt dk a' b' lim wb wp).pivot = (mid, ap, d4) := ⟨(partition lt (rd lt dk a' b' lim wb wp).pi.1 a' b' (rd lt dk a' b' lim wb wp).pivot).1, (partition lt (rd lt dk a' b' lim wb wp).pi.1 a' b' (rd lt dk a' b' lim wb wp).pivot).2.1, (partition lt (rd lt dk a' b' lim wb wp).pi.1 a' b' (rd lt dk a' b' lim wb wp).pivot).2.2, rfl⟩
                      obtain ⟨r1, r2, r3, r4, r5, r6, r7⟩ := round_part hO (partition_holds lt) hpv.1 hpv.2 (show b' ≤ (rd lt dk a' b' lim wb wp).pi.1.size by omega) B3 hx
                      have hc22 := partition_if HK.out (q + 3 + n + 5 * (n + 1)) a' b' (rd lt dk a' b' lim wb wp).pivot (a' : Int) (b' : Int) ((rd lt dk a' b' lim wb wp).pivot : Int) rfl rfl rfl (rd lt dk a' b' lim wb wp).pi.1 wc HR6.out hpv.1 hpv.2 hb' hn
                      rw [hx] at hc22
                      have HC := Lib.hid hc22
                      have X : Aside (partition lt (rd lt dk a' b' lim wb wp).pi.1 a' b' (rd lt dk a' b' lim wb wp).pivot = (mid, ap, d4)) := hx
                      clear hx hc22
                      go_upto_if 108 with (go_at_call 71; refine HC.out.mono ?_; rintro e w7 ⟨rfl, hR7, hP7⟩)
                      have HR7 : Hid (R (q + E) w7 d4) := HK.out.more hR7 (by have := HE.out; omega)
                      have HP7 := Lib.hid (HP6.out.trans hP7)
                      clear hR7 hP7 HC HR6 HP6
                      have hs4 : d4.size = n := by rw [r3, s3]; exact hds
                      by_cases h4 : mid - a' < b' - mid
                      · have h4z : (mid : Int) - (a' : Int) < (b' : Int) - (mid : Int) := by omega
                        have HC := Lib.hid (IH.out (q + E) a' mid (rd lt dk a' b' lim wb wp).lim (a' : Int) (mid : Int) ((rd lt dk a' b' lim wb wp).lim : Int) d4 w7 (by omega) rfl rfl rfl HR7.out (by omega) (by omega) (Nat.lt_of_le_of_lt (Nat.le_trans rd_lim_le hlim) hlimit) r4)
                        obtain ⟨pL, sL⟩ := pdq_sorts lt hO d4 a' mid (rd lt dk a' b' lim wb wp).lim true true (by omega) (by omega) r4
                        go_wp2_with (go_at_call 53; refine HC.out.mono ?_; rintro e w8 ⟨rfl, d8, hd8, hR8, hP8⟩; have HD8 := Lib.hid hd8; have HR8 := Lib.hid hR8; have HP8 := Lib.hid (HP7.out.trans hP8); clear hd8 hR8 hP8)
                        go_roundg (b' - (mid + 1))
                        case measure => omega
                        case rel =>
                          have hx := X.out
                          refine ⟨mid + 1, b', (rd lt dk a' b' lim wb wp).lim, decide (mid - a' ≥ (b' - a') / 8), ap, pdq lt d4 a' mid (rd lt dk a' b' lim wb wp).lim true true, by simp, rfl, rfl, ?_, rfl, by omega, by omega, Nat.le_refl _, by omega, Nat.le_trans rd_lim_le hlim, (r6 _ pL sL).1, ?_, HP8.out, ?_⟩
                          · exact congrArg Value.bool (eighth (by omega) (by omega))
                          · show R _ _ _
                            rw [← HD8.out]
                            exact HK.out.more HR8.out (by rw [HQ.out]; exact pq_step (by omega) (by omega))
                          · rw [← A.out, pdq_left h12 hl0 hp2 h87 (by rw [hx]; exact ⟨r1, r2⟩) (by rw [hx]; exact h4), hx]
                      · have h4z : ¬ ((mid : Int) - (a' : Int) < (b' : Int) - (mid : Int)) := by omega
                        have HC := Lib.hid (IH.out (q + E) (mid + 1) b' (rd lt dk a' b' lim wb wp).lim ((mid : Int) + 1) (b' : Int) ((rd lt dk a' b' lim wb wp).lim : Int) d4 w7 (by omega) (by omega) rfl rfl HR7.out (by omega) (by omega) (Nat.lt_of_le_of_lt (Nat.le_trans rd_lim_le hlim) hlimit) r5)
                        obtain ⟨pL, sL⟩ := pdq_sorts lt hO d4 (mid + 1) b' (rd lt dk a' b' lim wb wp).lim true true (by omega) (by omega) r5
                        go_wp2_with (go_at_call 53; refine HC.out.mono ?_; rintro e w8 ⟨rfl, d8, hd8, hR8, hP8⟩; have HD8 := Lib.hid hd8; have HR8 := Lib.hid hR8; have HP8 := Lib.hid (HP7.out.trans hP8); clear hd8 hR8 hP8)
                        go_roundg (mid - a')
                        case measure => omega
                        case rel =>
                          have hx := X.out
                          refine ⟨a', mid, (rd lt dk a' b' lim wb wp).lim, decide (b' - mid ≥ (b' - a') / 8), ap, pdq lt d4 (mid + 1) b' (rd lt dk a' b' lim wb wp).lim true true, rfl, rfl, rfl, ?_, rfl, by omega, by omega, Nat.le_refl _, by omega, Nat.le_trans rd_lim_le hlim, (r7 _ pL sL).1, ?_, HP8.out, ?_⟩
                          · exact congrArg Value.bool (eighth (by omega) (by omega))
                          · show R _ _ _
                            rw [← HD8.out]
                            exact HK.out.more HR8.out (by rw [HQ.out]; exact pq_step (by omega) (by omega))
                          · rw [← A.out, pdq_right h12 hl0 hp2 h87 (by rw [hx]; exact ⟨r1, r2⟩) (by rw [hx]; exact h4), hx]
                    · have h87' := h87
                      simp only [Bool.and_eq_true, decide_eq_true_eq, Bool.not_eq_true'] at h87'
                      obtain ⟨mid, d4, hx⟩ : ∃ mid d4, partitionEqual lt (rd lt dk a' b' lim wb wp).pi.1 a' b' (rd lt dk a' b' lim wb wp).pivot = (mid, d4) := ⟨(partitionEqual lt (rd lt dk a' b' lim wb wp).pi.1 a' b' (rd lt dk a' b' lim wb wp).pivot).1, (partitionEqual lt (rd lt dk a' b' lim wb wp).pi.1 a' b' (rd lt dk a' b' lim wb wp).pivot).2, rfl⟩
                      obtain ⟨r1, r2, r3, r4, _⟩ := round_eq hO (partitionEqual_holds lt) h87'.1 hpv.1 hpv.2 (show b' ≤ (rd lt dk a' b' lim wb wp).pi.1.size by omega) B3 h87'.2 hx
                      have hc21 := partitionEqual_if HK.out (q + 3 + n + 5 * (n + 1)) a' b' (rd lt dk a' b' lim wb wp).pivot (a' : Int) (b' : Int) ((rd lt dk a' b' lim wb wp).pivot : Int) rfl rfl rfl (rd lt dk a' b' lim wb wp).pi.1 wc HR6.out hpv.1 hpv.2 hb' hn
                      rw [hx] at hc21
                      have HC := Lib.hid hc21
                      have X : Aside (partitionEqual lt (rd lt dk a' b' lim wb wp).pi.1 a' b' (rd lt dk a' b' lim wb wp).pivot = (mid, d4)) := hx
                      clear hx hc21
                      go_wp2_with (go_at_call 70; refine HC.out.mono ?_; rintro e w7 ⟨rfl, hR7, hP7⟩; have HR7 : Hid (R (q + E) w7 d4) := HK.out.more hR7 (by have := HE.out; omega); have HP7 := Lib.hid (HP6.out.trans hP7); clear hR7 hP7)
                      go_roundg (b' - mid)
                      case measure => omega
                      case rel =>
                        have hx := X.out
                        exact ⟨mid, b', (rd lt dk a' b' lim wb wp).lim, wb, wp, d4, rfl, rfl, rfl, rfl, rfl, r2, hb', Nat.le_refl _, by omega, Nat.le_trans rd_lim_le hlim, r4, HK.out.more HR7.out (by rw [HQ.out]; exact Nat.le_trans (Nat.le_add_right _ (E * 0)) (pq_step (by omega) (by omega))), HP7.out, by rw [← A.out, pdq_eq h12 hl0 hp2 h87 (by rw [hx]; exact ⟨r1, r2⟩), hx]⟩

end

end Go.Proofs.Ytiioojnoggcnmaa

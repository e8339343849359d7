/-
  What is proved here: sort.partitionEqual and sort.partition over a relation that comparing and exchanging keep, with a bound on the number of exchanges; condition: fewer than 2^60 elements. Written by wip/gen/ifpart.py.
-/
import Derived.Test.YtiioojnoggcnmaaIfRel
import Derived.Shelf.GgSortFunc.Partition
namespace Go.Proofs.Ytiioojnoggcnmaa
open Go.RowKit Go.Sort
set_option linter.unusedVariables false
set_option linter.unusedSectionVars false

section
variable {α : Type} [Inhabited α] {lt : α → α → Bool} {B n : Nat} {R : Nat → World → Array α → Prop} {Ty : TypeId} {rv : Value} {gl gs : Nat} {rl rs : Value}

set_option maxHeartbeats 12800000 in
set_option maxRecDepth 1000000 in
theorem partitionEqual_if (K : IfRel Try.prog lt B n R Ty rv gl gs rl rs) (c0 : Nat) (a b pivot : Nat) (za zb zp : Int) (hza : za = a) (hzb : zb = b) (hzp : zp = pivot) (d : Array α) (W : World) (hR : R c0 W d) (hap : a ≤ pivot) (hpb : pivot < b) (hb : b ≤ n) (hn : n < 1152921504606846976) :
    Calls Try.prog 70 #[.iface Ty rv, .int .i64 za, .int .i64 zb, .int .i64 zp] W fun e w' => e = .returned (.int .i64 (Sort.partitionEqual lt d a b pivot).1) ∧ R (c0 + (n + 1)) w' (Sort.partitionEqual lt d a b pivot).2 ∧ Past B W w' := by
  subst hza hzb hzp
  obtain ⟨hB, hds⟩ := K.size hR
  have eL := K.eL
  have eS := K.eS
  have HK := Lib.hid K
  have mS := K.mS hR
  have HSW := Lib.hid (K.swap a pivot (a : Int) (pivot : Int) hR (by omega) (by omega) rfl rfl)
  clear K hR
  go_enter Try.func70, Try.ntmps70
  go_wp2_with (go_at_fn gs; refine HSW.out.mono ?_; rintro e w2 ⟨rfl, hR2, hP2⟩)
  have HR0 := Lib.hid hR2
  have HP0 := Lib.hid hP2
  clear hR2 hP2 HSW mS
  go_wp2
  go_loopg [9, 10] (b - a) (fun g0 vi vj wr => ∃ (i j : Nat) (dk : Array α), vi = .int .i64 i ∧ vj = .int .i64 j ∧ a < i ∧ i ≤ j + 1 ∧ j < b ∧ j + 1 - i ≤ g0 ∧ Hid (R (c0 + (i - a)) wr dk) ∧ Hid (Past B W wr) ∧
      Hid (Sort.partEqLoop lt a i j dk = Sort.partEqLoop lt a (a + 1) (b - 1) (Sort.swp d a pivot)))
  case atStart => exact ⟨a + 1, b - 1, Sort.swp d a pivot, by go_num, by go_num, by omega, by omega, by omega, by omega, HK.out.more HR0.out (by omega), HP0.out, rfl⟩
  case round =>
    clear HR0 HP0
    obtain ⟨i, j, dk, rfl, rfl, hai, hij, hjb, hg0, HRb, HPb, AE⟩ := hrel
    obtain ⟨q, hq⟩ : ∃ q, q = c0 + (i - a) := ⟨_, rfl⟩
    have HQ := Lib.hid hq
    rw [← hq] at HRb
    clear hq
    go_wp2
    go_loopg [9] (j + 1 - i) (fun g1 vi w1 => ∃ (i' : Nat), vi = .int .i64 i' ∧ i ≤ i' ∧ i' ≤ j + 1 ∧ j + 1 - i' ≤ g1 ∧ Hid (R q w1 dk) ∧ Hid (Past B W w1) ∧
        Hid (Sort.scanUp (fun x => !lt dk[a]! x) dk j i' = Sort.scanUp (fun x => !lt dk[a]! x) dk j i))
    case atStart => exact ⟨i, rfl, Nat.le_refl _, hij, Nat.le_refl _, HRb.out, HPb.out, rfl⟩
    case round =>
      clear HRb HPb
      obtain ⟨i', rfl, hii, hij', hg1, HRu, HPu, hsc⟩ := hrel
      by_cases hle : i' ≤ j
      · have mL := HK.out.mL HRu.out
        have HL := Lib.hid (HK.out.less a i' (a : Int) (i' : Int) HRu.out (by omega) (by omega) (by omega) (by omega))
        cases hlv : lt dk[a]! dk[i']! with
        | false =>
          rw [hlv] at HL
          go_wp2_with (go_at_fn gl; refine HL.out.mono ?_; rintro e w1 ⟨rfl, hR1, hP1⟩)
          have HRn := Lib.hid hR1
          have HPn := Lib.hid (HPu.out.trans hP1)
          clear hR1 hP1
          go_roundg (j + 1 - (i' + 1))
          case measure => omega
          case rel => exact ⟨i' + 1, by go_num, by omega, by omega, Nat.le_refl _, HRn.out, HPn.out, (scanUp_go (fun x => !lt dk[a]! x) dk j i' hle (by simp [hlv])).symm.trans hsc.out⟩
        | true =>
          rw [hlv] at HL
          have hi2 : Hid (i' = Sort.scanUp (fun x => !lt dk[a]! x) dk j i) := (scanUp_end (fun x => !lt dk[a]! x) dk j i' (Or.inr (by simp [hlv]))).symm.trans hsc.out
          clear hsc
          go_wp2_with (go_at_fn gl; refine HL.out.mono ?_; rintro e w1 ⟨rfl, hR1, hP1⟩)
          have HRu2 := Lib.hid hR1
          have HPu2 := Lib.hid (HPu.out.trans hP1)
          clear hR1 hP1 HRu HPu HL mL
          have HRu := HRu2
          have HPu := HPu2
          clear HRu2 HPu2
          go_wp2
          go_loopg [10] j (fun g2 vj w2 => ∃ (j' : Nat), vj = .int .i64 j' ∧ j' ≤ j ∧ i' ≤ j' + 1 ∧ j' ≤ g2 ∧ Hid (R q w2 dk) ∧ Hid (Past B W w2) ∧
              Hid (Sort.scanDown (fun x => lt dk[a]! x) dk i' j' = Sort.scanDown (fun x => lt dk[a]! x) dk i' j))
          case atStart => exact ⟨j, rfl, Nat.le_refl _, hij', Nat.le_refl _, HRu.out, HPu.out, rfl⟩
          case round =>
            clear HRu HPu
            obtain ⟨j', rfl, hjj, hij2, hg2, HRd, HPd, hsd⟩ := hrel
            by_cases hle2 : i' ≤ j'
            · have mL := HK.out.mL HRd.out
              have HL := Lib.hid (HK.out.less a j' (a : Int) (j' : Int) HRd.out (by omega) (by omega) (by omega) (by omega))
              cases hlv2 : lt dk[a]! dk[j']! with
              | true =>
                rw [hlv2] at HL
                go_wp2_with (go_at_fn gl; refine HL.out.mono ?_; rintro e w1 ⟨rfl, hR1, hP1⟩)
                have HRn := Lib.hid hR1
                have HPn := Lib.hid (HPd.out.trans hP1)
                clear hR1 hP1
                go_roundg (j' - 1)
                case measure => omega
                case rel => exact ⟨j' - 1, by go_num, by omega, by omega, Nat.le_refl _, HRn.out, HPn.out, (scanDown_go (fun x => lt dk[a]! x) dk i' j' hle2 (by omega) hlv2).symm.trans hsd.out⟩
              | false =>
                rw [hlv2] at HL
                have hj2 : Hid (j' = Sort.scanDown (fun x => lt dk[a]! x) dk i' j) := (scanDown_end (fun x => lt dk[a]! x) dk i' j' (Or.inr hlv2)).symm.trans hsd.out
                have hlt3 := scans_lt lt a i j dk (by omega) hi2.out hj2.out hle2
                clear hsd
                go_wp2_with (go_at_fn gl; refine HL.out.mono ?_; rintro e w1 ⟨rfl, hR1, hP1⟩; have mS := HK.out.mS hR1)
                have HSW := Lib.hid (HK.out.swap i' j' (i' : Int) (j' : Int) hR1 (by omega) (by omega) (by omega) (by omega))
                go_wp2_with (go_at_fn gs; refine HSW.out.mono ?_; rintro e w2 ⟨rfl, hR2, hP2⟩)
                have HRx := Lib.hid hR2
                have HPx := Lib.hid ((HPd.out.trans hP1).trans hP2)
                clear hR1 hP1 hR2 hP2 HSW mS HL mL
                have HEN := Lib.hid (show Sort.partEqLoop lt a (i' + 1) (j' - 1) (Sort.swp dk i' j') = Sort.partEqLoop lt a (a + 1) (b - 1) (Sort.swp d a pivot) by rw [← AE.out]; exact (partEq_go lt a i j dk hi2.out hj2.out (by omega)).symm)
                go_roundg (j' - 1 + 1 - (i' + 1))
                case measure => omega
                case rel => exact ⟨i' + 1, j' - 1, Sort.swp dk i' j', by go_num, by go_num, by omega, by omega, by omega, by omega, HK.out.more HRx.out (by have := HQ.out; omega), HPx.out, HEN.out⟩
            · have hj2 : Hid (j' = Sort.scanDown (fun x => lt dk[a]! x) dk i' j) := (scanDown_end (fun x => lt dk[a]! x) dk i' j' (Or.inl hle2)).symm.trans hsd.out
              clear hsd
              go_wp2
              go_ret
              have e := partEq_break lt a i j dk hi2.out hj2.out (by omega)
              refine ⟨?_, ?_, HPd.out⟩
              · unfold Sort.partitionEqual; rw [← AE.out, e]; rfl
              · unfold Sort.partitionEqual; rw [← AE.out, e]; exact HK.out.more HRd.out (by have := HQ.out; omega)
      · have hi2 : Hid (i' = Sort.scanUp (fun x => !lt dk[a]! x) dk j i) := (scanUp_end (fun x => !lt dk[a]! x) dk j i' (Or.inl hle)).symm.trans hsc.out
        clear hsc
        go_wp2
        go_loopg [10] j (fun g2 vj w2 => ∃ (j' : Nat), vj = .int .i64 j' ∧ j' ≤ j ∧ i' ≤ j' + 1 ∧ j' ≤ g2 ∧ Hid (R q w2 dk) ∧ Hid (Past B W w2) ∧
            Hid (Sort.scanDown (fun x => lt dk[a]! x) dk i' j' = Sort.scanDown (fun x => lt dk[a]! x) dk i' j))
        case atStart => exact ⟨j, rfl, Nat.le_refl _, hij', Nat.le_refl _, HRu.out, HPu.out, rfl⟩
        case round =>
          clear HRu HPu
          obtain ⟨j', rfl, hjj, hij2, hg2, HRd, HPd, hsd⟩ := hrel
          by_cases hle2 : i' ≤ j'
          · exfalso; omega
          · have hj2 : Hid (j' = Sort.scanDown (fun x => lt dk[a]! x) dk i' j) := (scanDown_end (fun x => lt dk[a]! x) dk i' j' (Or.inl hle2)).symm.trans hsd.out
            clear hsd
            go_wp2
            go_ret
            have e := partEq_break lt a i j dk hi2.out hj2.out (by omega)
            refine ⟨?_, ?_, HPd.out⟩
            · unfold Sort.partitionEqual; rw [← AE.out, e]; rfl
            · unfold Sort.partitionEqual; rw [← AE.out, e]; exact HK.out.more HRd.out (by have := HQ.out; omega)

set_option maxHeartbeats 12800000 in
set_option maxRecDepth 1000000 in
theorem partition_if (K : IfRel Try.prog lt B n R Ty rv gl gs rl rs) (c0 : Nat) (a b pivot : Nat) (za zb zp : Int) (hza : za = a) (hzb : zb = b) (hzp : zp = pivot) (d : Array α) (W : World) (hR : R c0 W d) (hap : a ≤ pivot) (hpb : pivot < b) (hb : b ≤ n) (hn : n < 1152921504606846976) :
    Calls Try.prog 71 #[.iface Ty rv, .int .i64 za, .int .i64 zb, .int .i64 zp] W fun e w' => e = .returned (.tuple #[.int .i64 (Sort.partition lt d a b pivot).1, .bool (Sort.partition lt d a b pivot).2.1]) ∧ R (c0 + (n + 1)) w' (Sort.partition lt d a b pivot).2.2 ∧ Past B W w' := by
  subst hza hzb hzp
  obtain ⟨hB, hds⟩ := K.size hR
  have eL := K.eL
  have eS := K.eS
  have HK := Lib.hid K
  have mS := K.mS hR
  have HSW := Lib.hid (K.swap a pivot (a : Int) (pivot : Int) hR (by omega) (by omega) rfl rfl)
  clear K hR
  go_enter Try.func71, Try.ntmps71
  go_wp2_with (go_at_fn gs; refine HSW.out.mono ?_; rintro e w2 ⟨rfl, hR2, hP2⟩)
  have HR0 := Lib.hid hR2
  have HP0 := Lib.hid hP2
  clear hR2 hP2 HSW mS
  obtain ⟨i, hi⟩ : ∃ i : Nat, i = a + 1 := ⟨_, rfl⟩
  obtain ⟨j, hj⟩ : ∃ j : Nat, j = b - 1 := ⟨_, rfl⟩
  obtain ⟨dk, hdk⟩ : ∃ dk : Array α, dk = Sort.swp d a pivot := ⟨_, rfl⟩
  have hai : a < i := by omega
  have hij : i ≤ j + 1 := by omega
  have hjb : j < b := by omega
  obtain ⟨q, hq⟩ : ∃ q, q = c0 + 1 := ⟨_, rfl⟩
  rw [← hdk, ← hq] at HR0
  have HRb := HR0
  have HPb := HP0
  have Hi : Hid (i = a + 1) := hi
  have Hj : Hid (j = b - 1) := hj
  have Hdk : Hid (dk = Sort.swp d a pivot) := hdk
  have HQ : Hid (q = c0 + (i - a)) := by show _ = _; omega
  clear hi hj hdk hq HR0 HP0
  go_wp2
  rw [show ((a : Int) + 1) = (i : Int) by have := Hi.out; omega, show ((b : Int) - 1) = (j : Int) by have := Hj.out; omega]
  go_loopg [10] (j + 1 - i) (fun g1 vi w1 => ∃ (i' : Nat), vi = .int .i64 i' ∧ i ≤ i' ∧ i' ≤ j + 1 ∧ j + 1 - i' ≤ g1 ∧ Hid (R q w1 dk) ∧ Hid (Past B W w1) ∧
      Hid (Sort.scanUp (fun x => lt x dk[a]!) dk j i' = Sort.scanUp (fun x => lt x dk[a]!) dk j i))
  case atStart => exact ⟨i, rfl, Nat.le_refl _, hij, Nat.le_refl _, HRb.out, HPb.out, rfl⟩
  case round =>
    clear HRb HPb
    obtain ⟨i', rfl, hii, hij', hg1, HRu, HPu, hsc⟩ := hrel
    by_cases hle : i' ≤ j
    · have mL := HK.out.mL HRu.out
      have HL := Lib.hid (HK.out.less i' a (i' : Int) (a : Int) HRu.out (by omega) (by omega) (by omega) (by omega))
      cases hlv : lt dk[i']! dk[a]! with
      | true =>
        rw [hlv] at HL
        go_wp2_with (go_at_fn gl; refine HL.out.mono ?_; rintro e w1 ⟨rfl, hR1, hP1⟩)
        have HRn := Lib.hid hR1
        have HPn := Lib.hid (HPu.out.trans hP1)
        clear hR1 hP1
        go_roundg (j + 1 - (i' + 1))
        case measure => omega
        case rel => exact ⟨i' + 1, by go_num, by omega, by omega, Nat.le_refl _, HRn.out, HPn.out, (scanUp_go (fun x => lt x dk[a]!) dk j i' hle hlv).symm.trans hsc.out⟩
      | false =>
        rw [hlv] at HL
        have hi2 : Hid (i' = Sort.scanUp (fun x => lt x dk[a]!) dk j i) := (scanUp_end (fun x => lt x dk[a]!) dk j i' (Or.inr hlv)).symm.trans hsc.out
        clear hsc
        go_wp2_with (go_at_fn gl; refine HL.out.mono ?_; rintro e w1 ⟨rfl, hR1, hP1⟩)
        have HRu2 := Lib.hid hR1
        have HPu2 := Lib.hid (HPu.out.trans hP1)
        clear hR1 hP1 HRu HPu HL mL
        have HRu := HRu2
        have HPu := HPu2
        clear HRu2 HPu2
        go_wp2
        go_loopg [11] j (fun g2 vj w2 => ∃ (j' : Nat), vj = .int .i64 j' ∧ j' ≤ j ∧ i' ≤ j' + 1 ∧ j' ≤ g2 ∧ Hid (R q w2 dk) ∧ Hid (Past B W w2) ∧
            Hid (Sort.scanDown (fun x => !lt x dk[a]!) dk i' j' = Sort.scanDown (fun x => !lt x dk[a]!) dk i' j))
        case atStart => exact ⟨j, rfl, Nat.le_refl _, hij', Nat.le_refl _, HRu.out, HPu.out, rfl⟩
        case round =>
          clear HRu HPu
          obtain ⟨j', rfl, hjj, hij2, hg2, HRd, HPd, hsd⟩ := hrel
          by_cases hle2 : i' ≤ j'
          · have mL := HK.out.mL HRd.out
            have HL := Lib.hid (HK.out.less j' a (j' : Int) (a : Int) HRd.out (by omega) (by omega) (by omega) (by omega))
            cases hlv2 : lt dk[j']! dk[a]! with
            | false =>
              rw [hlv2] at HL
              go_wp2_with (go_at_fn gl; refine HL.out.mono ?_; rintro e w1 ⟨rfl, hR1, hP1⟩)
              have HRn := Lib.hid hR1
              have HPn := Lib.hid (HPd.out.trans hP1)
              clear hR1 hP1
              go_roundg (j' - 1)
              case measure => omega
              case rel => exact ⟨j' - 1, by go_num, by omega, by omega, Nat.le_refl _, HRn.out, HPn.out, (scanDown_go (fun x => !lt x dk[a]!) dk i' j' hle2 (by omega) (by simp [hlv2])).symm.trans hsd.out⟩
            | true =>
              rw [hlv2] at HL
              have hj2 : Hid (j' = Sort.scanDown (fun x => !lt x dk[a]!) dk i' j) := (scanDown_end (fun x => !lt x dk[a]!) dk i' j' (Or.inr (by simp [hlv2]))).symm.trans hsd.out
              have hlt3 := part_scans_lt lt a i j dk (by omega) hi2.out hj2.out hle2
              clear hsd
              go_wp2_with (go_at_fn gl; refine HL.out.mono ?_; rintro e w1 ⟨rfl, hR1, hP1⟩; have mS := HK.out.mS hR1)
              have HSW := Lib.hid (HK.out.swap i' j' (i' : Int) (j' : Int) hR1 (by omega) (by omega) (by omega) (by omega))
              go_wp2_with (go_at_fn gs; refine HSW.out.mono ?_; rintro e w2 ⟨rfl, hR2, hP2⟩)
              have HRx := Lib.hid hR2
              have HPx := Lib.hid ((HPd.out.trans hP1).trans hP2)
              clear hR1 hP1 hR2 hP2 HSW mS HL mL
              (try rw [decide_eq_false (show ¬ j' < i' by omega)])
              obtain ⟨I0, hI0⟩ : ∃ I0 : Nat, I0 = i' + 1 := ⟨_, rfl⟩
              obtain ⟨J0, hJ0⟩ : ∃ J0 : Nat, J0 = j' - 1 := ⟨_, rfl⟩
              obtain ⟨D0, hD0⟩ : ∃ D0 : Array α, D0 = Sort.swp dk i' j' := ⟨_, rfl⟩
              have PF : Hid (Sort.partition lt d a b pivot = ((Sort.partLoop lt a I0 J0 D0).1, false, Sort.swp (Sort.partLoop lt a I0 J0 D0).2 (Sort.partLoop lt a I0 J0 D0).1 a)) := by
                show _ = _
                rw [hI0, hJ0, hD0]; exact part_first_go lt d a b pivot Hi.out Hj.out Hdk.out hi2.out hj2.out (by omega)
              go_loopg [10, 11] (b - a) (fun g0 vi vj wr => ∃ (i j : Nat) (dk : Array α), vi = .int .i64 i ∧ vj = .int .i64 j ∧ a < i ∧ i ≤ j + 1 ∧ j < b ∧ j + 1 - i ≤ g0 ∧ Hid (R (c0 + (i - a)) wr dk) ∧ Hid (Past B W wr) ∧
                  Hid (Sort.partLoop lt a i j dk = Sort.partLoop lt a I0 J0 D0))
              case atStart => exact ⟨i' + 1, j' - 1, Sort.swp dk i' j', by go_num, by go_num, by omega, by omega, by omega, by omega, HK.out.more HRx.out (by have := HQ.out; omega), HPx.out, by show _ = _; rw [hI0, hJ0, hD0]⟩
              case round =>
                clear hI0 hJ0 hD0 hj2 hi2 hlt3 Hi Hj Hdk HQ HRx HPx HRd HPd
                obtain ⟨i, j, dk, rfl, rfl, hai, hij, hjb, hg0, HRb, HPb, AE⟩ := hrel
                obtain ⟨q, hq⟩ : ∃ q, q = c0 + (i - a) := ⟨_, rfl⟩
                have HQ := Lib.hid hq
                rw [← hq] at HRb
                clear hq
                go_wp2
                go_loopg [10] (j + 1 - i) (fun g1 vi w1 => ∃ (i' : Nat), vi = .int .i64 i' ∧ i ≤ i' ∧ i' ≤ j + 1 ∧ j + 1 - i' ≤ g1 ∧ Hid (R q w1 dk) ∧ Hid (Past B W w1) ∧
                    Hid (Sort.scanUp (fun x => lt x dk[a]!) dk j i' = Sort.scanUp (fun x => lt x dk[a]!) dk j i))
                case atStart => exact ⟨i, rfl, Nat.le_refl _, hij, Nat.le_refl _, HRb.out, HPb.out, rfl⟩
                case round =>
                  clear HRb HPb
                  obtain ⟨i', rfl, hii, hij', hg1, HRu, HPu, hsc⟩ := hrel
                  by_cases hle : i' ≤ j
                  · have mL := HK.out.mL HRu.out
                    have HL := Lib.hid (HK.out.less i' a (i' : Int) (a : Int) HRu.out (by omega) (by omega) (by omega) (by omega))
                    cases hlv : lt dk[i']! dk[a]! with
                    | true =>
                      rw [hlv] at HL
                      go_wp2_with (go_at_fn gl; refine HL.out.mono ?_; rintro e w1 ⟨rfl, hR1, hP1⟩)
                      have HRn := Lib.hid hR1
                      have HPn := Lib.hid (HPu.out.trans hP1)
                      clear hR1 hP1
                      go_roundg (j + 1 - (i' + 1))
                      case measure => omega
                      case rel => exact ⟨i' + 1, by go_num, by omega, by omega, Nat.le_refl _, HRn.out, HPn.out, (scanUp_go (fun x => lt x dk[a]!) dk j i' hle hlv).symm.trans hsc.out⟩
                    | false =>
                      rw [hlv] at HL
                      have hi2 : Hid (i' = Sort.scanUp (fun x => lt x dk[a]!) dk j i) := (scanUp_end (fun x => lt x dk[a]!) dk j i' (Or.inr hlv)).symm.trans hsc.out
                      clear hsc
                      go_wp2_with (go_at_fn gl; refine HL.out.mono ?_; rintro e w1 ⟨rfl, hR1, hP1⟩)
                      have HRu2 := Lib.hid hR1
                      have HPu2 := Lib.hid (HPu.out.trans hP1)
                      clear hR1 hP1 HRu HPu HL mL
                      have HRu := HRu2
                      have HPu := HPu2
                      clear HRu2 HPu2
                      go_wp2
                      go_loopg [11] j (fun g2 vj w2 => ∃ (j' : Nat), vj = .int .i64 j' ∧ j' ≤ j ∧ i' ≤ j' + 1 ∧ j' ≤ g2 ∧ Hid (R q w2 dk) ∧ Hid (Past B W w2) ∧
                          Hid (Sort.scanDown (fun x => !lt x dk[a]!) dk i' j' = Sort.scanDown (fun x => !lt x dk[a]!) dk i' j))
                      case atStart => exact ⟨j, rfl, Nat.le_refl _, hij', Nat.le_refl _, HRu.out, HPu.out, rfl⟩
                      case round =>
                        clear HRu HPu
                        obtain ⟨j', rfl, hjj, hij2, hg2, HRd, HPd, hsd⟩ := hrel
                        by_cases hle2 : i' ≤ j'
                        · have mL := HK.out.mL HRd.out
                          have HL := Lib.hid (HK.out.less j' a (j' : Int) (a : Int) HRd.out (by omega) (by omega) (by omega) (by omega))
                          cases hlv2 : lt dk[j']! dk[a]! with
                          | false =>
                            rw [hlv2] at HL
                            go_wp2_with (go_at_fn gl; refine HL.out.mono ?_; rintro e w1 ⟨rfl, hR1, hP1⟩)
                            have HRn := Lib.hid hR1
                            have HPn := Lib.hid (HPd.out.trans hP1)
                            clear hR1 hP1
                            go_roundg (j' - 1)
                            case measure => omega
                            case rel => exact ⟨j' - 1, by go_num, by omega, by omega, Nat.le_refl _, HRn.out, HPn.out, (scanDown_go (fun x => !lt x dk[a]!) dk i' j' hle2 (by omega) (by simp [hlv2])).symm.trans hsd.out⟩
                          | true =>
                            rw [hlv2] at HL
                            have hj2 : Hid (j' = Sort.scanDown (fun x => !lt x dk[a]!) dk i' j) := (scanDown_end (fun x => !lt x dk[a]!) dk i' j' (Or.inr (by simp [hlv2]))).symm.trans hsd.out
                            have hlt3 := part_scans_lt lt a i j dk (by omega) hi2.out hj2.out hle2
                            clear hsd
                            go_wp2_with (go_at_fn gl; refine HL.out.mono ?_; rintro e w1 ⟨rfl, hR1, hP1⟩; have mS := HK.out.mS hR1)
                            have HSW := Lib.hid (HK.out.swap i' j' (i' : Int) (j' : Int) hR1 (by omega) (by omega) (by omega) (by omega))
                            go_wp2_with (go_at_fn gs; refine HSW.out.mono ?_; rintro e w2 ⟨rfl, hR2, hP2⟩)
                            have HRx := Lib.hid hR2
                            have HPx := Lib.hid ((HPd.out.trans hP1).trans hP2)
                            clear hR1 hP1 hR2 hP2 HSW mS HL mL
                            have HEN := Lib.hid (show Sort.partLoop lt a (i' + 1) (j' - 1) (Sort.swp dk i' j') = Sort.partLoop lt a I0 J0 D0 by rw [← AE.out]; exact (part_go lt a i j dk hi2.out hj2.out (by omega)).symm)
                            go_roundg (j' - 1 + 1 - (i' + 1))
                            case measure => omega
                            case rel => exact ⟨i' + 1, j' - 1, Sort.swp dk i' j', by go_num, by go_num, by omega, by omega, by omega, by omega, HK.out.more HRx.out (by have := HQ.out; omega), HPx.out, HEN.out⟩
                        · have hj2 : Hid (j' = Sort.scanDown (fun x => !lt x dk[a]!) dk i' j) := (scanDown_end (fun x => !lt x dk[a]!) dk i' j' (Or.inl hle2)).symm.trans hsd.out
                          clear hsd
                          have mS := HK.out.mS HRd.out
                          have HSW := Lib.hid (HK.out.swap j' a (j' : Int) (a : Int) HRd.out (by omega) (by omega) (by omega) (by omega))
                          go_wp2_with (go_at_fn gs; refine HSW.out.mono ?_; rintro e w2 ⟨rfl, hR2, hP2⟩)
                          go_ret2
                          have e := part_break lt a i j dk hi2.out hj2.out (by omega)
                          rw [PF.out, ← AE.out, e]
                          exact ⟨rfl, HK.out.more hR2 (by have := HQ.out; omega), HPd.out.trans hP2⟩
                  · have hi2 : Hid (i' = Sort.scanUp (fun x => lt x dk[a]!) dk j i) := (scanUp_end (fun x => lt x dk[a]!) dk j i' (Or.inl hle)).symm.trans hsc.out
                    clear hsc
                    go_wp2
                    go_loopg [11] j (fun g2 vj w2 => ∃ (j' : Nat), vj = .int .i64 j' ∧ j' ≤ j ∧ i' ≤ j' + 1 ∧ j' ≤ g2 ∧ Hid (R q w2 dk) ∧ Hid (Past B W w2) ∧
                        Hid (Sort.scanDown (fun x => !lt x dk[a]!) dk i' j' = Sort.scanDown (fun x => !lt x dk[a]!) dk i' j))
                    case atStart => exact ⟨j, rfl, Nat.le_refl _, hij', Nat.le_refl _, HRu.out, HPu.out, rfl⟩
                    case round =>
                      clear HRu HPu
                      obtain ⟨j', rfl, hjj, hij2, hg2, HRd, HPd, hsd⟩ := hrel
                      by_cases hle2 : i' ≤ j'
                      · exfalso; omega
                      · have hj2 : Hid (j' = Sort.scanDown (fun x => !lt x dk[a]!) dk i' j) := (scanDown_end (fun x => !lt x dk[a]!) dk i' j' (Or.inl hle2)).symm.trans hsd.out
                        clear hsd
                        have mS := HK.out.mS HRd.out
                        have HSW := Lib.hid (HK.out.swap j' a (j' : Int) (a : Int) HRd.out (by omega) (by omega) (by omega) (by omega))
                        go_wp2_with (go_at_fn gs; refine HSW.out.mono ?_; rintro e w2 ⟨rfl, hR2, hP2⟩)
                        go_ret2
                        have e := part_break lt a i j dk hi2.out hj2.out (by omega)
                        rw [PF.out, ← AE.out, e]
                        exact ⟨rfl, HK.out.more hR2 (by have := HQ.out; omega), HPd.out.trans hP2⟩
          · have hj2 : Hid (j' = Sort.scanDown (fun x => !lt x dk[a]!) dk i' j) := (scanDown_end (fun x => !lt x dk[a]!) dk i' j' (Or.inl hle2)).symm.trans hsd.out
            clear hsd
            have mS := HK.out.mS HRd.out
            have HSW := Lib.hid (HK.out.swap j' a (j' : Int) (a : Int) HRd.out (by omega) (by omega) (by omega) (by omega))
            go_wp2_with (go_at_fn gs; refine HSW.out.mono ?_; rintro e w2 ⟨rfl, hR2, hP2⟩)
            go_ret2
            have e := part_first_break lt d a b pivot Hi.out Hj.out Hdk.out hi2.out hj2.out (by omega)
            rw [e]
            exact ⟨rfl, HK.out.more hR2 (by have := HQ.out; omega), HPd.out.trans hP2⟩
    · have hi2 : Hid (i' = Sort.scanUp (fun x => lt x dk[a]!) dk j i) := (scanUp_end (fun x => lt x dk[a]!) dk j i' (Or.inl hle)).symm.trans hsc.out
      clear hsc
      go_wp2
      go_loopg [11] j (fun g2 vj w2 => ∃ (j' : Nat), vj = .int .i64 j' ∧ j' ≤ j ∧ i' ≤ j' + 1 ∧ j' ≤ g2 ∧ Hid (R q w2 dk) ∧ Hid (Past B W w2) ∧
          Hid (Sort.scanDown (fun x => !lt x dk[a]!) dk i' j' = Sort.scanDown (fun x => !lt x dk[a]!) dk i' j))
      case atStart => exact ⟨j, rfl, Nat.le_refl _, hij', Nat.le_refl _, HRu.out, HPu.out, rfl⟩
      case round =>
        clear HRu HPu
        obtain ⟨j', rfl, hjj, hij2, hg2, HRd, HPd, hsd⟩ := hrel
        by_cases hle2 : i' ≤ j'
        · exfalso; omega
        · have hj2 : Hid (j' = Sort.scanDown (fun x => !lt x dk[a]!) dk i' j) := (scanDown_end (fun x => !lt x dk[a]!) dk i' j' (Or.inl hle2)).symm.trans hsd.out
          clear hsd
          have mS := HK.out.mS HRd.out
          have HSW := Lib.hid (HK.out.swap j' a (j' : Int) (a : Int) HRd.out (by omega) (by omega) (by omega) (by omega))
          go_wp2_with (go_at_fn gs; refine HSW.out.mono ?_; rintro e w2 ⟨rfl, hR2, hP2⟩)
          go_ret2
          have e := part_first_break lt d a b pivot Hi.out Hj.out Hdk.out hi2.out hj2.out (by omega)
          rw [e]
          exact ⟨rfl, HK.out.more hR2 (by have := HQ.out; omega), HPd.out.trans hP2⟩

end

end Go.Proofs.Ytiioojnoggcnmaa

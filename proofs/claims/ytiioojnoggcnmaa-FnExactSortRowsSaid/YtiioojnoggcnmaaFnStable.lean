/-
  What is proved here: stable_func over a relation that comparing and exchanging keep: the array is sorted in the strict order that comparisons and the places at first tell; condition: fewer than 2^60 elements. Written by wip/gen/stable.py.
-/
import Derived.Test.YtiioojnoggcnmaaFnSym
import Derived.Test.YtiioojnoggcnmaaSymMore
namespace Go.Proofs.Ytiioojnoggcnmaa
open Go.RowKit Go.Sort
set_option linter.unusedVariables false
set_option linter.unusedSectionVars false

section
variable {α : Type} [Inhabited α] {lt : α → α → Bool} {T : α → α → Prop} {B n : Nat} {R : World → Array α → Prop} {gl sf : Nat} {lb sb : Array Value}

set_option maxHeartbeats 600000 in
set_option maxRecDepth 100000 in
theorem stable_fn (htr : ∀ x y z, T x y → T y z → T x z) (K : FnRel Try.prog lt B n R gl lb sf sb) (hn : n < 1152921504606846976) (zn : Int) (hz : zn = n) (d : Array α) (W : World) (hR : R W d) (hdec : ∀ i j, i < j → j < n → Dec lt T d[i]! d[j]!) :
    Calls Try.prog 60 #[.agg #[.func (.func gl) #[] lb, .func (.func sf) #[] sb], .int .i64 zn] W (Turned B R (fun d' => PermIn 0 n d d' ∧ SortT T 0 n d') W) := by
  subst hz
  have HB0 := Lib.hid (bl_start hdec)
  clear hdec
  obtain ⟨hB, hds⟩ := K.size hR
  have eg := K.eg
  obtain ⟨W1, hW1⟩ : ∃ W1, W1 = W.alloc (.cells #[.func (.func gl) #[] lb, .func (.func sf) #[] sb] 82) := ⟨_, rfl⟩
  have hR1 : R W1 d := K.near hR (by rw [hW1]; exact (RowKit.Below.refl _ _).alloc hB _)
  have hP1 : Past B W W1 := by rw [hW1]; exact (Past.refl _ _).alloc _
  have c0 : W1.cell? ⟨W.heap.size, 0, none⟩ = some (.func (.func gl) #[] lb) := by rw [hW1]; simp
  have c1 : W1.cell? ⟨W.heap.size, 1, none⟩ = some (.func (.func sf) #[] sb) := by rw [hW1]; simp
  have HK := Lib.hid K
  have HR1 := Lib.hid hR1
  have HP1 := Lib.hid hP1
  have HC := Lib.hid (And.intro c0 c1)
  clear K hR hR1 hP1 c0 c1
  go_enter Try.func60, Try.ntmps60
  go_wp2
  rw [← hW1]
  clear hW1
  go_loopg [5, 6] n (fun kx s5 s6 wr => ∃ (a : Nat) (zb : Int) (dk : Array α), s5 = .int .i64 a ∧ s6 = .int .i64 zb ∧ zb = (a : Int) + 20 ∧ a ≤ n ∧ n - a ≤ kx ∧ Hid (R wr dk) ∧ Hid (Past B W1 wr) ∧ Hid (20 ∣ a ∧ Bl lt T n 20 a (fun _ _ => False) dk ∧ PermIn 0 n d dk))
  case atStart => exact ⟨0, 20, d, rfl, rfl, rfl, Nat.zero_le _, by omega, HR1.out, Past.refl _ _, Nat.dvd_zero _, HB0.out, permIn_refl _ _ _⟩
  case round =>
    obtain ⟨a, zb, dk, rfl, rfl, hzb, han, hak, HR, HP, HS⟩ := hrel
    clear HR1 HB0
    have hsz : n ≤ dk.size := by rw [HS.out.2.2.1]; omega
    have c0 := HP.out.cell hB HC.out.1
    have c1 := HP.out.cell hB HC.out.2
    by_cases hlt : a + 20 ≤ n
    · have hltz : zb ≤ (n : Int) := by omega
      have HCA := Lib.hid (insertion_fn HK.out a (a + 20) (a : Int) zb rfl (by omega) dk wr HR.out (by omega) hlt hn)
      have HBI := Lib.hid (bl_ins htr HS.out.2.1 HS.out.1 (show a ≤ a + 20 by omega) hlt (Nat.le_refl _) (.inl rfl) hsz)
      have HD := Lib.hid (show 20 ∣ a + 20 from Nat.dvd_add HS.out.1 (Nat.dvd_refl _))
      have HPI := Lib.hid (permIn_trans _ _ _ _ _ HS.out.2.2 (permIn_mono _ _ _ _ 0 n (Nat.zero_le _) hlt hsz HBI.out.2))
      have hzb2 : zb = (((a + 20 : Nat)) : Int) := by omega
      have hzb4 : IntKind.i64.wrap (zb + 20) = zb + 20 := IntWalk.i64_in _ (by omega)
      have hzlo : 0 ≤ zb := by omega
      have HZ := Lib.hid hzb2
      clear hzb hzb2
      go_wp2_with fail
      refine HCA.out.mono ?_
      rintro e w2 ⟨rfl, dn, rfl, hR2, hP2⟩
      have HRn := Lib.hid hR2
      have HPn := Lib.hid (HP.out.trans hP2)
      clear hR2 hP2 HCA
      go_wp2_with fail
      go_roundg (n - (a + 20))
      case measure => omega
      case rel => exact ⟨a + 20, zb + 20, _, by rw [HZ.out], rfl, by have := HZ.out; omega, hlt, Nat.le_refl _, HRn.out, HPn.out, HD.out, HBI.out.1, HPI.out⟩
    · have hltz : ¬ zb ≤ (n : Int) := by omega
      have HCA := Lib.hid (insertion_fn HK.out a n (a : Int) (n : Int) rfl rfl dk wr HR.out han (Nat.le_refl _) hn)
      have HBI := Lib.hid (bl_ins htr HS.out.2.1 HS.out.1 han (Nat.le_refl _) (by omega) (.inr rfl) hsz)
      have HPI := Lib.hid (permIn_trans _ _ _ _ _ HS.out.2.2 (permIn_mono _ _ _ _ 0 n (Nat.zero_le _) (Nat.le_refl _) hsz HBI.out.2))
      clear hzb
      go_wp2_with fail
      refine HCA.out.mono ?_
      rintro e w2 ⟨rfl, dn, rfl, hR2, hP2⟩
      have HRn := Lib.hid hR2
      have HPn := Lib.hid (HP.out.trans hP2)
      clear hR2 hP2 HCA HR HP HS hltz
      have HB1 := Lib.hid (bl_done HBI.out.1 (Nat.le_refl _) (2 * 20))
      go_wp2_with fail
      go_loopg [4] n (fun kx s4 wr => ∃ (bs : Nat) (dk : Array α), s4 = .int .i64 bs ∧ 20 ≤ bs ∧ bs ≤ 2305843009213693952 ∧ n - bs ≤ kx ∧ Hid (R wr dk) ∧ Hid (Past B W1 wr) ∧ Hid (Bl lt T n (2 * bs) 0 (OneB bs) dk ∧ PermIn 0 n d dk))
      case atStart => exact ⟨20, _, rfl, Nat.le_refl _, by omega, by omega, HRn.out, HPn.out, HB1.out, HPI.out⟩
      case round =>
        clear HRn HPn HB1 HPI HBI
        obtain ⟨bs, dk, rfl, hbs1, hbs2, hbk, HR, HP, HS⟩ := hrel
        by_cases hbn : bs < n
        · have hbnz : (bs : Int) < (n : Int) := by omega
          go_wp2_with fail
          go_loopg [5, 6] n (fun kx s5 s6 wr => ∃ (a : Nat) (zb : Int) (dk : Array α), s5 = .int .i64 a ∧ s6 = .int .i64 zb ∧ zb = (a : Int) + 2 * (bs : Int) ∧ a ≤ n ∧ n - a ≤ kx ∧ Hid (R wr dk) ∧ Hid (Past B W1 wr) ∧ Hid (2 * bs ∣ a ∧ Bl lt T n (2 * bs) a (OneB bs) dk ∧ PermIn 0 n d dk))
          case atStart => exact ⟨0, 2 * (bs : Int), dk, rfl, rfl, by omega, Nat.zero_le _, by omega, HR.out, HP.out, Nat.dvd_zero _, HS.out.1, HS.out.2⟩
          case round =>
            clear HR HP HS
            obtain ⟨a2, zb2, dk2, rfl, rfl, hzb, han2, hak2, HR, HP, HS⟩ := hrel
            have hsz2 : n ≤ dk2.size := by rw [HS.out.2.2.1]; omega
            have c0 := HP.out.cell hB HC.out.1
            have c1 := HP.out.cell hB HC.out.2
            by_cases hlt2 : a2 + 2 * bs ≤ n
            · have hltz : zb2 ≤ (n : Int) := by omega
              have hd3 : bs ∣ a2 + 2 * bs := Nat.dvd_add (Nat.dvd_trans ⟨2, by rw [Nat.mul_comm]⟩ HS.out.1) ⟨2, by rw [Nat.mul_comm]⟩
              have HCA := Lib.hid (symMerge_fn htr HK.out hn (2 * bs + 1) a2 (a2 + bs) (a2 + 2 * bs) (a2 : Int) ((a2 : Int) + (bs : Int)) zb2 dk2 wr (by omega) rfl (by omega) (by omega) HR.out (by omega) (by omega) hlt2 hn (bl_merges HS.out.2.1 HS.out.1 (by omega) (by omega) hlt2 (Nat.le_refl _)))
              have HD := Lib.hid (show 2 * bs ∣ a2 + 2 * bs from Nat.dvd_add HS.out.1 (Nat.dvd_refl _))
              have HD3 := Lib.hid hd3
              have hzb5 : zb2 = (((a2 + 2 * bs : Nat)) : Int) := by omega
              have hzb4 : IntKind.i64.wrap (zb2 + 2 * (bs : Int)) = zb2 + 2 * (bs : Int) := IntWalk.i64_in _ (by omega)
              have hzlo : 0 ≤ zb2 := by omega
              have HZ := Lib.hid hzb5
              clear hzb hzb5 hd3
              go_wp2_with fail
              refine HCA.out.mono ?_
              rintro e w2 ⟨rfl, dn, ⟨hq1, hq2⟩, hR2, hP2⟩
              have HRn := Lib.hid hR2
              have HPn := Lib.hid (HP.out.trans hP2)
              have HBN := Lib.hid (bl_step' HS.out.2.1 HS.out.1 (by omega) hlt2 (Nat.le_refl _) (.inl rfl) hsz2 (fun i j e1 e2 e3 e4 => oneB_apart (a := a2) HD3.out e2 e3) hq1 hq2)
              have HPI := Lib.hid (permIn_trans _ _ _ _ _ HS.out.2.2 (permIn_mono _ _ _ _ 0 n (Nat.zero_le _) hlt2 hsz2 hq1))
              clear hR2 hP2 HCA hq1 hq2
              go_wp2_with fail
              go_roundg (n - (a2 + 2 * bs))
              case measure => omega
              case rel => exact ⟨a2 + 2 * bs, zb2 + 2 * (bs : Int), dn, by rw [HZ.out], rfl, by have := HZ.out; omega, hlt2, Nat.le_refl _, HRn.out, HPn.out, HD.out, HBN.out, HPI.out⟩
            · have hltz : ¬ zb2 ≤ (n : Int) := by omega
              clear hzb
              by_cases hmn : a2 + bs < n
              · have hmnz : (a2 : Int) + (bs : Int) < (n : Int) := by omega
                have HCA := Lib.hid (symMerge_fn htr HK.out hn (n + 1) a2 (a2 + bs) n (a2 : Int) ((a2 : Int) + (bs : Int)) (n : Int) dk2 wr (by omega) rfl (by omega) rfl HR.out (by omega) hmn (Nat.le_refl _) hn (bl_merges HS.out.2.1 HS.out.1 (by omega) hmn (Nat.le_refl _) (by omega)))
                go_wp2_with fail
                refine HCA.out.mono ?_
                rintro e w2 ⟨rfl, dn, ⟨hq1, hq2⟩, hR2, hP2⟩
                have HRn := Lib.hid hR2
                have HPn := Lib.hid (HP.out.trans hP2)
                have HBN := Lib.hid (bl_done (bl_step' HS.out.2.1 HS.out.1 han2 (Nat.le_refl _) (by omega) (.inr rfl) hsz2 (fun i j e1 e2 e3 e4 => absurd e4 (by omega)) hq1 hq2) (Nat.le_refl _) (2 * (2 * bs)))
                have HPI := Lib.hid (permIn_trans _ _ _ _ _ HS.out.2.2 (permIn_mono _ _ _ _ 0 n (Nat.zero_le _) (Nat.le_refl _) hsz2 hq1))
                clear hR2 hP2 HCA hq1 hq2
                go_wp2_with fail
                go_roundg (n - 2 * bs)
                case measure => omega
                case rel => exact ⟨2 * bs, dn, by congr 1; omega, by omega, by omega, Nat.le_refl _, HRn.out, HPn.out, HBN.out, HPI.out⟩
              · have hmnz : ¬ (a2 : Int) + (bs : Int) < (n : Int) := by omega
                have HBN := Lib.hid (bl_done (bl_step' HS.out.2.1 HS.out.1 han2 (Nat.le_refl _) (by omega) (.inr rfl) hsz2 (fun i j e1 e2 e3 e4 => absurd e4 (by omega)) (permIn_refl _ _ _) (bl_alone HS.out.2.1 HS.out.1 (by omega))) (Nat.le_refl _) (2 * (2 * bs)))
                go_wp2_with fail
                go_roundg (n - 2 * bs)
                case measure => omega
                case rel => exact ⟨2 * bs, dk2, by congr 1; omega, by omega, by omega, Nat.le_refl _, HR.out, HP.out, HBN.out, HS.out.2.2⟩
        · have hbnz : ¬ (bs : Int) < (n : Int) := by omega
          go_wp2_with fail
          go_end0
          exact ⟨rfl, dk, ⟨HS.out.2, bl_all HS.out.1 (by omega)⟩, HR.out, HP1.out.trans HP.out⟩

end

end Go.Proofs.Ytiioojnoggcnmaa

/-
  What is proved here: sort.reverseRange, sort.breakPatterns over a relation that comparing and exchanging keep, with a bound on the number of exchanges; condition: fewer than 2^60 elements. Written by wip/gen/ifsmall.py.
-/
import Derived.Test.YtiioojnoggcnmaaIfRel
import Derived.Test.YtiioojnoggcnmaaShelf
import Derived.Shelf.SlSortFunc.Xorshift
import Derived.Sort.Walk7
import Derived.Sort.WalkB12
import Derived.Sort.LotA
namespace Go.Proofs.Ytiioojnoggcnmaa
open Go.RowKit Go.Sort
set_option linter.unusedVariables false
set_option linter.unusedSectionVars false

section
variable {α : Type} [Inhabited α] {lt : α → α → Bool} {B n : Nat} {R : Nat → World → Array α → Prop} {Ty : TypeId} {rv : Value} {gl gs : Nat} {rl rs : Value}

set_option maxHeartbeats 8000000 in
set_option maxRecDepth 1000000 in
theorem reverseRange_if (K : IfRel Try.prog lt B n R Ty rv gl gs rl rs) (c0 : Nat) (a b : Nat) (za zb : Int) (hza : za = a) (hzb : zb = b) (d : Array α) (W : World) (hR : R c0 W d) (hab : a ≤ b) (hb : b ≤ n) (hn : n < 1152921504606846976) :
    Calls Try.prog 68 #[.iface Ty rv, .int .i64 za, .int .i64 zb] W (TurnedI B R (c0 + (b - a)) (fun d' => d' = reverseRange d a b) W) := by
  subst hza hzb
  obtain ⟨hB, hds⟩ := K.size hR
  have eL := K.eL
  have eS := K.eS
  have HK := Lib.hid K
  have HR1 := Lib.hid hR
  clear K hR
  go_enter Try.func68, Try.ntmps68
  go_wp2
  go_loopg [6, 7] (b - a) (fun k s6 s7 wr => ∃ (i jn : Nat) (jz : Int) (dk : Array α), s6 = .int .i64 i ∧ s7 = .int .i64 jz ∧ a ≤ i ∧ i ≤ b ∧ ((i : Int) < jz → jz = jn ∧ jn < b) ∧ (¬ (i : Int) < jz → ¬ i < jn) ∧ jn - i ≤ k ∧
    Hid (R (c0 + (i - a)) wr dk) ∧ Hid (Past B W wr) ∧ Hid (reverseLoop i jn dk = reverseLoop a (b - 1) d))
  case atStart => exact ⟨a, b - 1, (b : Int) - 1, d, rfl, rfl, Nat.le_refl _, hab, fun h => ⟨by omega, by omega⟩, fun h => by omega, by omega, HK.out.more HR1.out (by omega), Past.refl _ _, rfl⟩
  case round =>
    obtain ⟨i, jn, jz, dk, rfl, rfl, hai, hib, h1, h2, hk, HR, HP, HE⟩ := hrel
    clear HR1
    by_cases hlt : (i : Int) < jz
    · obtain ⟨rfl, hjn⟩ := h1 hlt
      have hij : i < jn := by omega
      clear h1 h2
      have mS := HK.out.mS HR.out
      have HSW := Lib.hid (HK.out.swap i jn ((i : Int)) ((jn : Int)) HR.out (by omega) (by omega) (by omega) (by omega))
      go_wp2_with (go_at_fn gs; refine HSW.out.mono ?_; rintro e w2 ⟨rfl, hR2, hP2⟩)
      have HRs := Lib.hid hR2
      have HPs := Lib.hid (HP.out.trans hP2)
      clear hR2 hP2 HSW mS
      go_roundg (jn - 1 - (i + 1))
      case measure => omega
      case rel =>
        have heq := HE.out
        rw [reverseLoop, if_pos hij] at heq
        exact ⟨i + 1, jn - 1, (jn : Int) - 1, swp dk i jn, by simp, rfl, by omega, by omega, fun h => ⟨by omega, by omega⟩, fun h => by omega, Nat.le_refl _, HK.out.more HRs.out (by omega), HPs.out, heq⟩
    · have hnot := h2 hlt
      go_wp2
      go_end0
      refine ⟨rfl, dk, ?_, HK.out.more HR.out (by omega), HP.out⟩
      have heq := HE.out
      rw [reverseLoop, if_neg hnot] at heq
      rw [reverseRange, ← heq]

theorem Past.setCell {B : Nat} {W w : World} (h : Past B W w) {p : Addr} (hp : W.heap.size ≤ p.block) (v : Value) : Past B W (w.setCell p v) :=
  ⟨by rw [show (w.setCell p v).heap.size = w.heap.size by simp]; exact h.1, fun k h1 h2 => (RowKit.Below.heap_setCell w p v k (by omega)).trans (h.2 k h1 h2)⟩
theorem Past.drewNs {B : Nat} {W w : World} (h : Past B W w) (q : Nat) : Past B W (w.drewN q) := h.trans (Past.drewN B w q)
theorem Past.frozen {B : Nat} {w w' : World} (h : Past B w w') {p : Addr} (hB : B ≤ p.block) (hl : p.block < w.heap.size) (hf : w.frozen? p = false) : w'.frozen? p = false :=
  (World.frozen?_of_block (w := w) (h.2 p.block hB hl)).trans hf
theorem below_drewN {B : Nat} {a w : World} (h : RowKit.Below B a w) (q : Nat) : RowKit.Below B a (w.drewN q) := ⟨h.os, h.tape, h.output, h.size, h.block⟩

theorem nextPow_if (L : Nat) (hL : L < 4611686018427387904) (w : World) : Calls Try.prog 92 #[.int .i64 (L : Int)] w fun e w' => e = .returned (.int .u64 ((1 <<< bitsLen L : Nat) : Int)) ∧ w' = w :=
  Any.nextPowerOfTwo (P := Try.prog) (ρ := sl6_ren) { sl6 with } L hL w
theorem xorNext_if (rb ro X : Nat) (hX : X < 18446744073709551616) (w : World) (hc : w.cell? ⟨rb, ro, none⟩ = some (.int .u64 X)) (hf : w.frozen? ⟨rb, ro, none⟩ = false) :
    Calls Try.prog 93 #[.pointer (some ⟨rb, ro, none⟩)] w fun e w' => e = .returned (.int .u64 (xorNextN X : Nat)) ∧ w' = (w.setCell ⟨rb, ro, none⟩ (.int .u64 (xorNextN X : Nat))).drewN 3 :=
  Any.xorshift_Next (P := Try.prog) (ρ := sl6_ren) { sl6 with } rb ro X hX w hc hf

set_option maxHeartbeats 8000000 in
set_option maxRecDepth 1000000 in
theorem breakPatterns_go (K : IfRel Try.prog lt B n R Ty rv gl gs rl rs) (c0 : Nat) (a L : Nat) (zb : Int) (hzb : zb = ((a + L : Nat) : Int)) (d : Array α) (W : World) (hR : R c0 W d) (hb : a + L ≤ n) (hn : n < 1152921504606846976) (h8 : 8 ≤ L) :
    Calls Try.prog 66 #[.iface Ty rv, .int .i64 (a : Int), .int .i64 zb] W (TurnedI B R (c0 + 3) (fun d' => d' = breakPatterns d a (a + L)) W) := by
  subst hzb
  rw [breakPatterns_eq d a L h8]
  obtain ⟨M, hM⟩ : ∃ M : Nat, M = 1 <<< bitsLen L := ⟨_, rfl⟩
  have hM1 : 1 ≤ M := by rw [hM, Nat.one_shiftLeft]; exact Nat.two_pow_pos _
  have hM2 : M ≤ 2 * L := by rw [hM, Nat.one_shiftLeft]; exact two_pow_bitsLen_le (by omega)
  have HNP : Hid (∀ w, Calls Try.prog 92 #[.int .i64 (L : Int)] w fun e w' => e = .returned (.int .u64 (M : Int)) ∧ w' = w) := by show ∀ w, _; rw [hM]; exact fun w => nextPow_if L (by omega) w
  rw [← hM]
  clear hM
  have hLz : ((a : Int) + (L : Int) - (a : Int)) = (L : Int) := by omega
  have h8z : (8 : Int) ≤ (L : Int) := by omega
  obtain ⟨hB, hds⟩ := K.size hR
  have eS := K.eS
  have HK := Lib.hid K
  have HR1 := Lib.hid hR
  clear K hR
  go_enter Try.func66, Try.ntmps66
  go_wp2_with fail
  refine (HNP.out _).mono ?_
  rintro e w' ⟨rfl, rfl⟩
  go_wp2_with fail
  go_loopg [9] 3 (fun g1 vi wr => ∃ (t : Nat) (r : UInt64) (dk : Array α), vi = .int .i64 ((a : Int) + (L : Int) / 4 * 2 - 1 + (t : Int)) ∧ t ≤ 3 ∧ 3 - t ≤ g1 ∧ Hid (R (c0 + t) wr dk) ∧ Hid (Past B W wr) ∧
      wr.cell? ⟨W.heap.size, 0, none⟩ = some (.int .u64 (r.toNat : Int)) ∧ wr.frozen? ⟨W.heap.size, 0, none⟩ = false ∧
      Hid (bpRest a L M (a + L / 4 * 2 - 1) (3 - t) t (r, dk) = bpRest a L M (a + L / 4 * 2 - 1) 3 0 (UInt64.ofNat L, d)))
  case atStart =>
    refine ⟨0, UInt64.ofNat L, d, by simp, by omega, by omega, HK.out.near HR1.out ((RowKit.Below.refl _ _).alloc hB _), (Past.refl _ _).alloc _, ?_, by simp, rfl⟩
    rw [show (UInt64.ofNat L).toNat = L from by simp; omega]
    simp
  case round =>
    obtain ⟨t, r, dk, rfl, ht, hg1, HR, HP, cR, fR, HBP⟩ := hrel
    clear HR1
    by_cases ht3 : t < 3
    · have hle : (a : Int) + (L : Int) / 4 * 2 - 1 + (t : Int) ≤ (a : Int) + (L : Int) / 4 * 2 + 1 := by omega
      obtain ⟨R0, hRr⟩ : ∃ R0 : Nat, R0 = r.toNat := ⟨_, rfl⟩
      have lR : R0 < 18446744073709551616 := by rw [hRr]; exact r.toNat_lt
      obtain ⟨R', hR'⟩ : ∃ R' : Nat, R' = xorNextN R0 := ⟨_, rfl⟩
      have lR' : R' < 18446744073709551616 := by rw [hR']; exact xorNextN_lt R0 lR
      obtain ⟨O, hO⟩ : ∃ O : Nat, O = R' &&& (M - 1) := ⟨_, rfl⟩
      have lO : O ≤ M - 1 := by rw [hO]; exact Nat.and_le_right
      have eAnd : bits .and .u64 (R' : Int) ((M : Int) - 1) = (O : Int) := by
        rw [show ((M : Int) - 1) = ((M - 1 : Nat) : Int) by omega, bits_and_u64_nat _ _ lR' (by omega), hO]
      rw [← hRr] at cR
      have hNext : Calls Try.prog 93 #[.pointer (some ⟨W.heap.size, 0, none⟩)] wr fun e w' => e = .returned (.int .u64 (R' : Int)) ∧ w' = (wr.setCell ⟨W.heap.size, 0, none⟩ (.int .u64 (R' : Int))).drewN 3 := by
        rw [hR']; exact xorNext_if _ _ R0 lR wr cR fR
      have HN : Hid (R' = (xorNext r).toNat ∧ O = (xorNext r).toNat &&& (M - 1)) := by
        have e : R' = (xorNext r).toNat := by rw [hR', hRr, xorNext_toNat]
        exact ⟨e, by rw [hO, e]⟩
      clear hRr hR' hO
      have hRx : R (c0 + t) ((wr.setCell ⟨W.heap.size, 0, none⟩ (.int .u64 (R' : Int))).drewN 3) dk := HK.out.near HR.out (below_drewN ((RowKit.Below.refl _ _).setCell hB _) 3)
      have hPx : Past B W ((wr.setCell ⟨W.heap.size, 0, none⟩ (.int .u64 (R' : Int))).drewN 3) := (HP.out.setCell (Nat.le_refl _) _).drewNs 3
      have cR' : ((wr.setCell ⟨W.heap.size, 0, none⟩ (.int .u64 (R' : Int))).drewN 3).cell? ⟨W.heap.size, 0, none⟩ = some (.int .u64 (R' : Int)) := by
        rw [World.cell?_drewN]; exact World.cell?_setCell_same _ _ _ cR
      have fR' : ((wr.setCell ⟨W.heap.size, 0, none⟩ (.int .u64 (R' : Int))).drewN 3).frozen? ⟨W.heap.size, 0, none⟩ = false := by
        rw [World.frozen?_drewN]; simpa using fR
      generalize (wr.setCell ⟨W.heap.size, 0, none⟩ (.int .u64 (R' : Int))).drewN 3 = w2 at hNext hRx hPx cR' fR'
      have HNext := Lib.hid hNext
      have HRx := Lib.hid hRx
      have HPx := Lib.hid hPx
      have HCX := Lib.hid (And.intro cR' fR')
      have mS := HK.out.mS hRx
      clear cR fR hNext hRx hPx cR' fR' HR HP
      by_cases hLO : L ≤ O
      · have hLOz : (L : Int) ≤ (O : Int) := by omega
        have HSW := Lib.hid (HK.out.swap (a + L / 4 * 2 - 1 + t) (a + (O - L)) ((a : Int) + (L : Int) / 4 * 2 - 1 + (t : Int)) ((a : Int) + ((O : Int) - (L : Int))) HRx.out (by omega) (by omega) (by omega) (by omega))
        go_wp2_with fail
        refine HNext.out.mono ?_
        rintro e w' ⟨rfl, hw'⟩
        subst hw'
        go_wp2_with (go_at_fn gs; refine HSW.out.mono ?_; rintro e w3 ⟨rfl, hR3, hP3⟩)
        have HR3 := Lib.hid hR3
        have HP3 := Lib.hid (HPx.out.trans hP3)
        have HC3 := Lib.hid (hP3.cell (p := ⟨W.heap.size, 0, none⟩) hB HCX.out.1)
        have HF3 := Lib.hid (hP3.frozen (p := ⟨W.heap.size, 0, none⟩) hB (World.block_lt_of_cell? _ _ HCX.out.1) HCX.out.2)
        clear hR3 hP3 HSW mS
        go_roundg (3 - (t + 1))
        case measure => omega
        case rel => exact ⟨t + 1, xorNext r, swp dk (a + L / 4 * 2 - 1 + t) (a + (O - L)), by congr 1; push_cast; omega, by omega, Nat.le_refl _, HK.out.more HR3.out (by omega), HP3.out, by rw [← HN.out.1]; exact HC3.out, HF3.out,
          (show bpRest a L M (a + L / 4 * 2 - 1) _ _ _ = _ from by rw [← HBP.out, bp_step a L M _ t r dk (O - L) ht3 (by rw [← HN.out.2, if_pos (by omega)])])⟩
      · have hLOz : ¬ (L : Int) ≤ (O : Int) := by omega
        have HSW := Lib.hid (HK.out.swap (a + L / 4 * 2 - 1 + t) (a + O) ((a : Int) + (L : Int) / 4 * 2 - 1 + (t : Int)) ((a : Int) + (O : Int)) HRx.out (by omega) (by omega) (by omega) (by omega))
        go_wp2_with fail
        refine HNext.out.mono ?_
        rintro e w' ⟨rfl, hw'⟩
        subst hw'
        go_wp2_with (go_at_fn gs; refine HSW.out.mono ?_; rintro e w3 ⟨rfl, hR3, hP3⟩)
        have HR3 := Lib.hid hR3
        have HP3 := Lib.hid (HPx.out.trans hP3)
        have HC3 := Lib.hid (hP3.cell (p := ⟨W.heap.size, 0, none⟩) hB HCX.out.1)
        have HF3 := Lib.hid (hP3.frozen (p := ⟨W.heap.size, 0, none⟩) hB (World.block_lt_of_cell? _ _ HCX.out.1) HCX.out.2)
        clear hR3 hP3 HSW mS
        go_roundg (3 - (t + 1))
        case measure => omega
        case rel => exact ⟨t + 1, xorNext r, swp dk (a + L / 4 * 2 - 1 + t) (a + O), by congr 1; push_cast; omega, by omega, Nat.le_refl _, HK.out.more HR3.out (by omega), HP3.out, by rw [← HN.out.1]; exact HC3.out, HF3.out,
          (show bpRest a L M (a + L / 4 * 2 - 1) _ _ _ = _ from by rw [← HBP.out, bp_step a L M _ t r dk (O) ht3 (by rw [← HN.out.2, if_neg (by omega)])])⟩
    · obtain rfl : t = 3 := by omega
      have hle : ¬ ((a : Int) + (L : Int) / 4 * 2 - 1 + ((3 : Nat) : Int) ≤ (a : Int) + (L : Int) / 4 * 2 + 1) := by omega
      go_wp2
      go_end0
      exact ⟨rfl, dk, by rw [← HBP.out]; rfl, HR.out, HP.out⟩

theorem breakPatterns_if (K : IfRel Try.prog lt B n R Ty rv gl gs rl rs) (c0 : Nat) (a b : Nat) (za zb : Int) (hza : za = a) (hzb : zb = b) (d : Array α) (W : World) (hR : R c0 W d) (hab : a ≤ b) (hb : b ≤ n) (hn : n < 1152921504606846976) :
    Calls Try.prog 66 #[.iface Ty rv, .int .i64 za, .int .i64 zb] W (TurnedI B R (c0 + 3) (fun d' => d' = breakPatterns d a b) W) := by
  obtain ⟨L, rfl⟩ : ∃ L, b = a + L := ⟨b - a, by omega⟩
  by_cases h8 : 8 ≤ L
  · subst hza
    exact breakPatterns_go K c0 a L zb hzb d W hR hb hn h8
  · have hv : breakPatterns d a (a + L) = d := by unfold breakPatterns; simp only [Nat.add_sub_cancel_left]; rw [if_neg h8]
    rw [hv]
    subst hza hzb
    have hLz : ((a : Int) + (L : Int) - (a : Int)) = (L : Int) := by omega
    have h8z : ¬ (8 : Int) ≤ (L : Int) := by omega
    obtain ⟨hB, hds⟩ := K.size hR
    have HK := Lib.hid K
    have HR1 := Lib.hid hR
    clear K hR
    go_enter Try.func66, Try.ntmps66
    go_wp2
    go_end0
    exact ⟨rfl, d, rfl, HK.out.more HR1.out (by omega), Past.refl _ _⟩

end

end Go.Proofs.Ytiioojnoggcnmaa

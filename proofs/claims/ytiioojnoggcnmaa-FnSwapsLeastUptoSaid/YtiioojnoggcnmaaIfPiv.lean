/-
  What is proved here: sort.order2, sort.median, sort.medianAdjacent, sort.choosePivot over a relation that comparing keeps; condition: fewer than 2^60 elements. Written by wip/gen/ifpiv.py.
-/
import Derived.Test.YtiioojnoggcnmaaIfSmall
import Derived.Shelf.GgSortFunc.Pivot
namespace Go.Proofs.Ytiioojnoggcnmaa
open Go.RowKit Go.Sort
set_option linter.unusedVariables false
set_option linter.unusedSectionVars false

section
variable {α : Type} [Inhabited α] {lt : α → α → Bool} {B n : Nat} {R : Nat → World → Array α → Prop} {Ty : TypeId} {rv : Value} {gl gs : Nat} {rl rs : Value}

/-- The world of a choice: the array stands, what lay from B on stands but for the counter's own block, which holds s. -/
def PW (R : Nat → World → Array α → Prop) (c0 : Nat) (d : Array α) (B cb : Nat) (W : World) (s : Nat) (w : World) : Prop :=
  R c0 w d ∧ (W.heap.size ≤ w.heap.size ∧ ∀ k, B ≤ k → k < W.heap.size → k ≠ cb → w.heap[k]? = W.heap[k]?) ∧ w.cell? ⟨cb, 0, none⟩ = some (.int .i64 (s : Int)) ∧ w.frozen? ⟨cb, 0, none⟩ = false

theorem PW.past (K : IfRel Try.prog lt B n R Ty rv gl gs rl rs) {c0 : Nat} {d : Array α} {cb s : Nat} {W w w' : World} (h : PW R c0 d B cb W s w) (hcb : B ≤ cb) (hR : R c0 w' d) (hp : Past B w w') : PW R c0 d B cb W s w' :=
  ⟨hR, ⟨Nat.le_trans h.2.1.1 hp.1, fun k h1 h2 h3 => (hp.2 k h1 (Nat.lt_of_lt_of_le h2 h.2.1.1)).trans (h.2.1.2 k h1 h2 h3)⟩, hp.cell (p := ⟨cb, 0, none⟩) hcb h.2.2.1, hp.frozen (p := ⟨cb, 0, none⟩) hcb (World.block_lt_of_cell? _ _ h.2.2.1) h.2.2.2⟩
theorem PW.count (K : IfRel Try.prog lt B n R Ty rv gl gs rl rs) {c0 : Nat} {d : Array α} {cb s : Nat} {W w : World} (h : PW R c0 d B cb W s w) (hcb : B ≤ cb) (s' : Nat) : PW R c0 d B cb W s' (w.setCell ⟨cb, 0, none⟩ (.int .i64 (s' : Int))) :=
  ⟨K.near h.1 ((RowKit.Below.refl _ _).setCell hcb _), ⟨by rw [show (w.setCell ⟨cb, 0, none⟩ (.int .i64 (s' : Int))).heap.size = w.heap.size by simp]; exact h.2.1.1, fun k h1 h2 h3 => (RowKit.Below.heap_setCell w _ _ k h3).trans (h.2.1.2 k h1 h2 h3)⟩, World.cell?_setCell_same _ _ _ h.2.2.1, by simpa using h.2.2.2⟩


set_option maxHeartbeats 4000000 in
set_option maxRecDepth 100000 in
theorem order2_if (K : IfRel Try.prog lt B n R Ty rv gl gs rl rs) (c0 : Nat) (a b cb s : Nat) (za zb : Int) (hza : za = a) (hzb : zb = b) (d : Array α) (W W0 : World) (h : PW R c0 d B cb W0 s W) (hcb : B ≤ cb) (ha : a < n) (hb : b < n) (hs : s < 4611686018427387904) :
    Calls Try.prog 101 #[.iface Ty rv, .int .i64 za, .int .i64 zb, .pointer (some ⟨cb, 0, none⟩)] W fun e w' => e = .returned (.tuple #[.int .i64 (order2 lt d a b s).1, .int .i64 (order2 lt d a b s).2.1]) ∧ PW R c0 d B cb W0 (order2 lt d a b s).2.2 w' := by
  subst hza hzb
  have eL := K.eL
  have HK := Lib.hid K
  have mL := K.mL h.1
  have HL := Lib.hid (K.less b a (b : Int) (a : Int) h.1 hb ha rfl rfl)
  have HH := Lib.hid h
  clear K h
  go_enter Try.func101, Try.ntmps101
  cases hlv : lt d[b]! d[a]! with
  | true =>
    rw [hlv] at HL
    have e2 : order2 lt d a b s = (b, a, s + 1) := by simp [order2, hlv]
    rw [e2]
    go_wp2_with (go_at_fn gl; refine HL.out.mono ?_; rintro e w1 ⟨rfl, hR1, hP1⟩; have h1 := HH.out.past HK.out hcb hR1 hP1; have cs := h1.2.2.1; have fs := h1.2.2.2; have H1 := Lib.hid h1; clear h1 hR1 hP1)
    go_ret2
    exact ⟨rfl, H1.out.count HK.out hcb (s + 1)⟩
  | false =>
    rw [hlv] at HL
    have e2 : order2 lt d a b s = (a, b, s) := by simp [order2, hlv]
    rw [e2]
    go_wp2_with (go_at_fn gl; refine HL.out.mono ?_; rintro e w1 ⟨rfl, hR1, hP1⟩; have H1 := Lib.hid (HH.out.past HK.out hcb hR1 hP1); clear hR1 hP1)
    go_ret2
    exact ⟨rfl, H1.out⟩

set_option maxHeartbeats 4000000 in
set_option maxRecDepth 100000 in
theorem median_if (K : IfRel Try.prog lt B n R Ty rv gl gs rl rs) (c0 : Nat) (a b c cb s : Nat) (za zb zc : Int) (hza : za = a) (hzb : zb = b) (hzc : zc = c) (d : Array α) (W W0 : World) (h : PW R c0 d B cb W0 s W) (hcb : B ≤ cb) (ha : a < n) (hb : b < n) (hc : c < n) (hs : s + 3 < 4611686018427387904) :
    Calls Try.prog 95 #[.iface Ty rv, .int .i64 za, .int .i64 zb, .int .i64 zc, .pointer (some ⟨cb, 0, none⟩)] W fun e w' => e = .returned (.int .i64 (median lt d a b c s).1) ∧ PW R c0 d B cb W0 (median lt d a b c s).2 w' := by
  subst hza hzb hzc
  obtain ⟨-, hds⟩ := K.size h.1
  have l1 := order2_lt' lt d s (show a < d.size by omega) (show b < d.size by omega)
  have s1 := order2_swaps' lt d a b s
  have l2 := order2_lt' lt d (order2 lt d a b s).2.2 l1.2 (show c < d.size by omega)
  have s2 := order2_swaps' lt d (order2 lt d a b s).2.1 c (order2 lt d a b s).2.2
  have HK := Lib.hid K
  have HC := Lib.hid (order2_if K c0 a b cb s (a : Int) (b : Int) rfl rfl d W W0 h hcb ha hb (by omega))
  clear K h
  go_enter Try.func95, Try.ntmps95
  go_wp2_with fail
  refine HC.out.mono ?_
  rintro e w1 ⟨rfl, h1⟩
  have HC2 := Lib.hid (order2_if HK.out c0 (order2 lt d a b s).2.1 c cb (order2 lt d a b s).2.2 _ (c : Int) rfl rfl d w1 W0 h1 hcb (by omega) hc (by omega))
  clear h1 HC
  go_wp2_with fail
  refine HC2.out.mono ?_
  rintro e w2 ⟨rfl, h2⟩
  have HC3 := Lib.hid (order2_if HK.out c0 (order2 lt d a b s).1 (order2 lt d (order2 lt d a b s).2.1 c (order2 lt d a b s).2.2).1 cb (order2 lt d (order2 lt d a b s).2.1 c (order2 lt d a b s).2.2).2.2 _ _ rfl rfl d w2 W0 h2 hcb (by omega) (by omega) (by omega))
  clear h2 HC2
  go_wp2_with fail
  refine HC3.out.mono ?_
  rintro e w3 ⟨rfl, h3⟩
  have H3 := Lib.hid h3
  clear h3 HC3
  go_wp2_with fail
  go_ret
  exact ⟨rfl, H3.out⟩

set_option maxHeartbeats 4000000 in
set_option maxRecDepth 100000 in
theorem medianAdjacent_if (K : IfRel Try.prog lt B n R Ty rv gl gs rl rs) (c0 : Nat) (a cb s : Nat) (za : Int) (hza : za = a) (d : Array α) (W W0 : World) (h : PW R c0 d B cb W0 s W) (hcb : B ≤ cb) (ha1 : 1 ≤ a) (ha2 : a + 1 < n) (hn : n < 1152921504606846976) (hs : s + 3 < 4611686018427387904) :
    Calls Try.prog 94 #[.iface Ty rv, .int .i64 za, .pointer (some ⟨cb, 0, none⟩)] W fun e w' => e = .returned (.int .i64 (medianAdjacent lt d a s).1) ∧ PW R c0 d B cb W0 (medianAdjacent lt d a s).2 w' := by
  subst hza
  have HC := Lib.hid (median_if K c0 (a - 1) a (a + 1) cb s ((a : Int) - 1) (a : Int) ((a : Int) + 1) (by omega) rfl (by omega) d W W0 h hcb (by omega) (by omega) ha2 hs)
  clear K h
  go_enter Try.func94, Try.ntmps94
  go_wp2_with fail
  refine HC.out.mono ?_
  rintro e w3 ⟨rfl, h3⟩
  have H3 := Lib.hid h3
  clear h3 HC
  go_wp2_with fail
  go_ret
  exact ⟨rfl, H3.out⟩


set_option maxHeartbeats 4000000 in
set_option maxRecDepth 100000 in
theorem choosePivot_if (K : IfRel Try.prog lt B n R Ty rv gl gs rl rs) (c0 : Nat) (a b : Nat) (za zb : Int) (hza : za = a) (hzb : zb = b) (d : Array α) (W : World) (hR : R c0 W d) (hab : a < b) (hb : b ≤ n) (hn : n < 1152921504606846976) :
    Calls Try.prog 67 #[.iface Ty rv, .int .i64 za, .int .i64 zb] W fun e w' => e = .returned (.tuple #[.int .i64 (choosePivot lt d a b).1, .int .i64 (hintCode (choosePivot lt d a b).2)]) ∧ R c0 w' d ∧ Past B W w' := by
  subst hza hzb
  obtain ⟨hB, hds⟩ := K.size hR
  have mk : ∀ (s : Nat) (w : World), PW R c0 d B W.heap.size W s w → R c0 w d ∧ Past B W w ∧ w.cell? ⟨W.heap.size, 0, none⟩ = some (.int .i64 (s : Int)) ∧ w.frozen? ⟨W.heap.size, 0, none⟩ = false := fun _ _ h => ⟨h.1, ⟨h.2.1.1, fun k h1 h2 => h.2.1.2 k h1 h2 (by omega)⟩, h.2.2⟩
  have PW0 : Hid (PW R c0 d B W.heap.size W 0 (W.alloc (.cells #[.int .i64 0] 3))) := ⟨K.near hR ((RowKit.Below.refl _ _).alloc hB _), ⟨by simp, fun k _ h2 _ => RowKit.Below.heap_alloc _ _ _ h2⟩, by simp, by simp⟩
  have MA := fun (x s : Nat) (w : World) (h : PW R c0 d B W.heap.size W s w) h1 h2 h3 => medianAdjacent_if K c0 x W.heap.size s (x : Int) rfl d w W h hB h1 h2 hn h3
  have MD := fun (x y z s : Nat) (w : World) (h : PW R c0 d B W.heap.size W s w) h1 h2 h3 h4 => median_if K c0 x y z W.heap.size s (x : Int) (y : Int) (z : Int) rfl rfl rfl d w W h hB h1 h2 h3 h4
  have HMK := Lib.hid mk
  have HR1 := Lib.hid hR
  clear K hR mk
  rw [choosePivot_eq]
  obtain ⟨I, hI⟩ : ∃ I : Nat, I = a + (b - a) / 4 * 1 := ⟨_, rfl⟩
  obtain ⟨J, hJ⟩ : ∃ J : Nat, J = a + (b - a) / 4 * 2 := ⟨_, rfl⟩
  obtain ⟨K, hK⟩ : ∃ K : Nat, K = a + (b - a) / 4 * 3 := ⟨_, rfl⟩
  have eI : ((a : Int) + ((b : Int) - (a : Int)) / 4) = (I : Int) := by omega
  have eJ : ((a : Int) + ((b : Int) - (a : Int)) / 4 * 2) = (J : Int) := by omega
  have eK : ((a : Int) + ((b : Int) - (a : Int)) / 4 * 3) = (K : Int) := by omega
  by_cases h8 : b - a ≥ 8
  · by_cases h50 : b - a ≥ 50
    · obtain ⟨i1, s1, h1⟩ : ∃ i1 s1, medianAdjacent lt d I 0 = (i1, s1) := ⟨_, _, rfl⟩
      obtain ⟨j1, s2, h2⟩ : ∃ j1 s2, medianAdjacent lt d J s1 = (j1, s2) := ⟨_, _, rfl⟩
      obtain ⟨k1, s3, h3⟩ : ∃ k1 s3, medianAdjacent lt d K s2 = (k1, s3) := ⟨_, _, rfl⟩
      obtain ⟨p, s, h4⟩ : ∃ p s, median lt d i1 j1 k1 s3 = (p, s) := ⟨_, _, rfl⟩
      have hraw : rawPivot lt d a b = (p, s) := by simp only [rawPivot, if_pos h8, if_pos h50, ← hI, ← hJ, ← hK, h1, h2, h3, h4]
      have m1 := medianAdjacent_mem lt d I 0; rw [h1] at m1
      have m2 := medianAdjacent_mem lt d J s1; rw [h2] at m2
      have m3 := medianAdjacent_mem lt d K s2; rw [h3] at m3
      have n1 := medianAdjacent_count lt d I 0; rw [h1] at n1
      have n2 := medianAdjacent_count lt d J s1; rw [h2] at n2
      have n3 := medianAdjacent_count lt d K s2; rw [h3] at n3
      simp only [] at m1 m2 m3 n1 n2 n3
      have C1 : Hid (∀ w, PW R c0 d B W.heap.size W 0 w → Calls Try.prog 94 #[.iface Ty rv, .int .i64 (I : Int), .pointer (some ⟨W.heap.size, 0, none⟩)] w fun e w' => e = .returned (.int .i64 (i1 : Int)) ∧ PW R c0 d B W.heap.size W s1 w') := fun w hw => by
        have h := MA I 0 w hw (by omega) (by omega) (by omega); rw [h1] at h; exact h
      have C2 : Hid (∀ w, PW R c0 d B W.heap.size W s1 w → Calls Try.prog 94 #[.iface Ty rv, .int .i64 (J : Int), .pointer (some ⟨W.heap.size, 0, none⟩)] w fun e w' => e = .returned (.int .i64 (j1 : Int)) ∧ PW R c0 d B W.heap.size W s2 w') := fun w hw => by
        have h := MA J s1 w hw (by omega) (by omega) (by omega); rw [h2] at h; exact h
      have C3 : Hid (∀ w, PW R c0 d B W.heap.size W s2 w → Calls Try.prog 94 #[.iface Ty rv, .int .i64 (K : Int), .pointer (some ⟨W.heap.size, 0, none⟩)] w fun e w' => e = .returned (.int .i64 (k1 : Int)) ∧ PW R c0 d B W.heap.size W s3 w') := fun w hw => by
        have h := MA K s2 w hw (by omega) (by omega) (by omega); rw [h3] at h; exact h
      have C4 : Hid (∀ w, PW R c0 d B W.heap.size W s3 w → Calls Try.prog 95 #[.iface Ty rv, .int .i64 (i1 : Int), .int .i64 (j1 : Int), .int .i64 (k1 : Int), .pointer (some ⟨W.heap.size, 0, none⟩)] w fun e w' => e = .returned (.int .i64 (p : Int)) ∧ PW R c0 d B W.heap.size W s w') := fun w hw => by
        have h := MD i1 j1 k1 s3 w hw (by omega) (by omega) (by omega) (by omega); rw [h4] at h; exact h
      rw [hraw]
      obtain ⟨Hc, hHc⟩ : ∃ Hc : Int, Hc = hintCode (hintOf s) := ⟨_, rfl⟩
      have hh0 : s = 0 → Hc = 1 := fun h => by rw [hHc, h]; rfl
      have hh12 : s = 12 → Hc = 2 := fun h => by rw [hHc, h]; rfl
      have hhx : s ≠ 0 → s ≠ 12 → Hc = 0 := fun h1 h2 => by rw [hHc]; unfold hintOf; rw [if_neg h1, if_neg h2]; rfl
      show Calls Try.prog 67 _ W fun e w' => e = .returned (.tuple #[.int .i64 (p : Int), .int .i64 (hintCode (hintOf s))]) ∧ R c0 w' d ∧ Past B W w'
      rw [← hHc]
      clear hHc hraw
      clear h1 h2 h3 h4 MA MD hI hJ hK m1 m2 m3
      go_enter Try.func67, Try.ntmps67
      go_wp2_with fail
      refine (C1.out _ PW0.out).mono ?_
      rintro e w1 ⟨rfl, hnw1⟩
      have Hw1 := Lib.hid hnw1
      clear hnw1
      go_wp2_with fail
      refine (C2.out _ Hw1.out).mono ?_
      rintro e w2 ⟨rfl, hnw2⟩
      have Hw2 := Lib.hid hnw2
      clear hnw2
      go_wp2_with fail
      refine (C3.out _ Hw2.out).mono ?_
      rintro e w3 ⟨rfl, hnw3⟩
      have Hw3 := Lib.hid hnw3
      clear hnw3
      go_wp2_with fail
      refine (C4.out _ Hw3.out).mono ?_
      rintro e w4 ⟨rfl, hnw4⟩
      have Hw4 := Lib.hid hnw4
      have cS := hnw4.2.2.1
      have HPW := Lib.hid (HMK.out _ _ hnw4)
      clear hnw4
      go_wp2_with fail
      all_goals
        go_ret2
        refine ⟨?_, HPW.out.1, HPW.out.2.1⟩
        first
          | (have e0 : (s : Int) = 0 := of_beq_int (by assumption)
             rw [hh0 (by omega)]; rfl)
          | (have e1 : (s : Int) = 12 := of_beq_int (by assumption)
             rw [hh12 (by omega)]; rfl)
          | (have e0 : (s : Int) ≠ 0 := of_bne_int (by assumption)
             have e1 : (s : Int) ≠ 12 := of_bne_int (by assumption)
             rw [hhx (by omega) (by omega)]; rfl)
          | (rw [hh0 (by omega)]; rfl)
    · obtain ⟨p, s, h4⟩ : ∃ p s, median lt d I J K 0 = (p, s) := ⟨_, _, rfl⟩
      have hraw : rawPivot lt d a b = (p, s) := by simp only [rawPivot, if_pos h8, if_neg h50, ← hI, ← hJ, ← hK, h4]
      have C4 : Hid (∀ w, PW R c0 d B W.heap.size W 0 w → Calls Try.prog 95 #[.iface Ty rv, .int .i64 (I : Int), .int .i64 (J : Int), .int .i64 (K : Int), .pointer (some ⟨W.heap.size, 0, none⟩)] w fun e w' => e = .returned (.int .i64 (p : Int)) ∧ PW R c0 d B W.heap.size W s w') := fun w hw => by
        have h := MD I J K 0 w hw (by omega) (by omega) (by omega) (by omega); rw [h4] at h; exact h
      rw [hraw]
      obtain ⟨Hc, hHc⟩ : ∃ Hc : Int, Hc = hintCode (hintOf s) := ⟨_, rfl⟩
      have hh0 : s = 0 → Hc = 1 := fun h => by rw [hHc, h]; rfl
      have hh12 : s = 12 → Hc = 2 := fun h => by rw [hHc, h]; rfl
      have hhx : s ≠ 0 → s ≠ 12 → Hc = 0 := fun h1 h2 => by rw [hHc]; unfold hintOf; rw [if_neg h1, if_neg h2]; rfl
      show Calls Try.prog 67 _ W fun e w' => e = .returned (.tuple #[.int .i64 (p : Int), .int .i64 (hintCode (hintOf s))]) ∧ R c0 w' d ∧ Past B W w'
      rw [← hHc]
      clear hHc hraw
      clear h4 MA MD hI hJ hK
      go_enter Try.func67, Try.ntmps67
      go_wp2_with fail
      refine (C4.out _ PW0.out).mono ?_
      rintro e w4 ⟨rfl, hnw4⟩
      have Hw4 := Lib.hid hnw4
      have cS := hnw4.2.2.1
      have HPW := Lib.hid (HMK.out _ _ hnw4)
      clear hnw4
      go_wp2_with fail
      all_goals
        go_ret2
        refine ⟨?_, HPW.out.1, HPW.out.2.1⟩
        first
          | (have e0 : (s : Int) = 0 := of_beq_int (by assumption)
             rw [hh0 (by omega)]; rfl)
          | (have e1 : (s : Int) = 12 := of_beq_int (by assumption)
             rw [hh12 (by omega)]; rfl)
          | (have e0 : (s : Int) ≠ 0 := of_bne_int (by assumption)
             have e1 : (s : Int) ≠ 12 := of_bne_int (by assumption)
             rw [hhx (by omega) (by omega)]; rfl)
          | (rw [hh0 (by omega)]; rfl)
  · obtain ⟨p, hp⟩ : ∃ p : Nat, p = J := ⟨_, rfl⟩
    obtain ⟨s, hs⟩ : ∃ s : Nat, s = 0 := ⟨_, rfl⟩
    have hraw : rawPivot lt d a b = (p, s) := by simp only [rawPivot, if_neg h8, ← hJ, hp, hs]
    rw [hraw]
    obtain ⟨Hc, hHc⟩ : ∃ Hc : Int, Hc = hintCode (hintOf s) := ⟨_, rfl⟩
    have hh0 : s = 0 → Hc = 1 := fun h => by rw [hHc, h]; rfl
    have hh12 : s = 12 → Hc = 2 := fun h => by rw [hHc, h]; rfl
    have hhx : s ≠ 0 → s ≠ 12 → Hc = 0 := fun h1 h2 => by rw [hHc]; unfold hintOf; rw [if_neg h1, if_neg h2]; rfl
    show Calls Try.prog 67 _ W fun e w' => e = .returned (.tuple #[.int .i64 (p : Int), .int .i64 (hintCode (hintOf s))]) ∧ R c0 w' d ∧ Past B W w'
    rw [← hHc]
    clear hHc hraw
    subst hp
    have PW0s : Hid (PW R c0 d B W.heap.size W s (W.alloc (.cells #[.int .i64 0] 3))) := by subst hs; exact PW0
    have HPW := Lib.hid (HMK.out _ _ PW0s.out)
    have hsz : (s : Int) = 0 := by omega
    clear MA MD hI hJ hK
    go_enter Try.func67, Try.ntmps67
    go_wp2
    all_goals
      go_ret2
      refine ⟨?_, HPW.out.1, HPW.out.2.1⟩
      first
        | (have e0 : (s : Int) = 0 := of_beq_int (by assumption)
           rw [hh0 (by omega)]; rfl)
        | (have e1 : (s : Int) = 12 := of_beq_int (by assumption)
           rw [hh12 (by omega)]; rfl)
        | (have e0 : (s : Int) ≠ 0 := of_bne_int (by assumption)
           have e1 : (s : Int) ≠ 12 := of_bne_int (by assumption)
           rw [hhx (by omega) (by omega)]; rfl)
        | (rw [hh0 (by omega)]; rfl)

end

end Go.Proofs.Ytiioojnoggcnmaa

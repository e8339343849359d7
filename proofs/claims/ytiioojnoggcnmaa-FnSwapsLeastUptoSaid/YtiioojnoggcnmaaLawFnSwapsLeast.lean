/-
  What is proved here: the walk of the law FnSwapsLeast, for lists of at most 2^20 elements; no other condition.
-/
import Derived.Test.YtiioojnoggcnmaaSwaps
import Derived.Test.YtiioojnoggcnmaaEquals
import Derived.Test.YtiioojnoggcnmaaRanksF
import Derived.Test.YtiioojnoggcnmaaSame
import Derived.Laws.OwnMore
namespace Go.Proofs.Ytiioojnoggcnmaa
open Go.RowKit
set_option linter.unusedVariables false

theorem tmod_two {x : Int} (h : x % 2 = 0) : x.tmod 2 = 0 := Int.tmod_eq_zero_of_dvd (Int.dvd_of_emod_eq_zero h)
theorem wrap_small {k : Nat} (h : k ≤ 4611686018427387904) : wrap64 (k : Int) = (k : Int) := by unfold wrap64; omega
theorem most_sort {k l : Nat} (hl : l ≤ 1048576) (h : k ≤ 20 * (l + 1) * l) : k ≤ 30000000000000 := by
  have := Nat.mul_le_mul (Nat.mul_le_mul_left 20 (show l + 1 ≤ 1048577 by omega)) hl
  omega
theorem most_stable {k l : Nat} (hl : l ≤ 1048576) (h : k ≤ 2 * (20 + 2 * l) * l) : k ≤ 30000000000000 := by
  have := Nat.mul_le_mul (Nat.mul_le_mul_left 2 (show 20 + 2 * l ≤ 2097172 by omega)) hl
  omega

/-- The places that a label does not tell from that of their number's rank. -/
def Resp (x : List Int) (f : Nat → Nat) : Prop := ∀ p v, x[p]? = some v → f p = f (rank x v)
/-- Memory holds the marks sn in the block sb. -/
def Marks (sb n : Nat) (sn : Nat → Bool) (w : World) : Prop := ∀ t, t < n → w.cell? ⟨sb, t, none⟩ = some (.bool (sn t)) ∧ w.frozen? ⟨sb, t, none⟩ = false
theorem Marks.set {sb n k : Nat} {sn : Nat → Bool} {w : World} (h : Marks sb n sn w) (hk : k < n) : Marks sb n (fun t => if t = k then true else sn t) (w.setCell ⟨sb, k, none⟩ (.bool true)) := fun t ht => by
  refine ⟨?_, by simpa using (h t ht).2⟩
  show _ = some (Value.bool (if t = k then true else sn t))
  by_cases e : t = k
  · subst e
    rw [if_pos rfl]
    exact World.cell?_setCell_same _ _ _ (h t ht).1
  · rw [if_neg e, World.cell?_setCell_other _ _ _ _ (fun e2 => by simp only [Addr.mk.injEq, and_true, true_and] at e2; exact e e2.symm)]
    exact (h t ht).1
theorem bool_info : (Try.prog.info? 4).map (fun i => (i.zero, i.size, i.bytes)) = some (some (.bool false), 1, 1) := by kernel_rfl
theorem make_bools (W : World) (n : Nat) (hn : n ≤ 1048576) : ∃ w', Sem.run Try.prog (Instr.makeSlice 39 (.int .i64 (n : Int)) (.int .i64 (n : Int))) W = .ok (.slice (some ⟨W.heap.size, 0, none⟩) n n) w' ∧ Marks W.heap.size n (fun _ => false) w' ∧ Below W.heap.size W w' := by
  obtain ⟨i0, hi, hz0, hz1, hz2⟩ := info_parts bool_info
  obtain ⟨w', h1, h2, h3⟩ := run_makeSlice_full (P := Try.prog) W W.heap.size 39 4 i0 (.bool false) 1 Try.underlying39 hi hz0 hz1 .i64 .i64 n (by omega) (by rw [hz2]; omega) (by unfold maxLen; omega) (Nat.le_refl _)
  refine ⟨w', h1, fun t ht => ⟨?_, h2.frozenAt t⟩, (Below.refl _ _).grown h3 (Nat.le_refl _) (by simp)⟩
  rw [h2.cellAt t (by omega)]
  simp [madeCells, Value.cells, ht, Nat.mod_one]
/-- How many are not marked. -/
def bare (n : Nat) (sn : Nat → Bool) : Nat := (List.range n).countP (fun t => !sn t)
theorem bare_le (n : Nat) (sn : Nat → Bool) : bare n sn ≤ n := by
  have := List.countP_le_length (p := fun t => !sn t) (l := List.range n)
  simpa [bare] using this
theorem bare_set {n k : Nat} {sn : Nat → Bool} (hk : k < n) (h : sn k = false) : bare n (fun t => if t = k then true else sn t) < bare n sn := by
  induction n with
  | zero => omega
  | succ n ih =>
    unfold bare at *
    rw [List.range_succ, List.countP_append, List.countP_append]
    by_cases e : k = n
    · subst e
      have h1 : (List.range k).countP (fun t => !(if t = k then true else sn t)) = (List.range k).countP (fun t => !sn t) := List.countP_congr (fun t ht => by
        have : t ≠ k := by have := List.mem_range.1 ht; omega
        simp [this])
      rw [h1]
      simp [h]
    · have := ih (by omega)
      have h2 : [n].countP (fun t => !(if t = k then true else sn t)) = [n].countP (fun t => !sn t) := by
        have : n ≠ k := fun e2 => e e2.symm
        simp [this]
      rw [h2]
      omega

set_option maxRecDepth 100000 in
set_option maxHeartbeats 4000000 in
theorem walk_FnSwapsLeast (v0 : Value) (x0 : List Int) (w : World) (h0 : Ro w v0 x0) (f0 : ∀ x ∈ x0, (Lit.int .i64 x).wf = true) (n0 : x0.length ≤ 1048576) :
    Calls Try.prog 6 #[v0] w fun e w' => e = .returned (.bool true) ∧ Below w.heap.size w w' := by
  have R_v0 := Lib.hid h0
  clear h0 f0
  obtain ⟨A0, c0, b0, off0, rfl, hnc0, hcm0, -, -⟩ := R_v0.out.shape
  obtain ⟨l0, hl0⟩ : ∃ n, n = x0.length := ⟨_, rfl⟩
  rw [← hl0] at R_v0 n0 hnc0 ⊢
  have HL0 := Lib.hid hl0
  clear hl0
  unfold maxLen at hcm0
  obtain ⟨i2, hi2⟩ : ∃ i, i = eqs x0 := ⟨_, rfl⟩
  have k2 : i2 ≤ 1099511627776 := by
    have := eqs_le x0
    rw [← hi2, ← HL0.out] at this
    have h2 := Nat.mul_le_mul n0 n0
    omega
  have HI2 := Lib.hid hi2
  clear hi2
  go_enter Try.func6, Try.ntmps6
  go_wp2_with fail
  refine (equals_any _ x0 _ R_v0.out (by rw [← HL0.out]; omega)).mono ?_
  rw [← HI2.out]
  rintro e W1 ⟨rfl, b1⟩
  replace R_v0 := Lib.hid (R_v0.out.below b1)
  have bt1 : Below w.heap.size w W1 := b1
  clear b1
  by_cases hz : 0 < i2
  · have hz1 : (0 : Int) < (i2 : Int) := by omega
    go_wp2_with fail
    refine (works_any _).mono ?_
    rintro e W2 ⟨rfl, b2⟩
    replace R_v0 := Lib.hid (R_v0.out.below b2)
    have bt2 : Below w.heap.size w W2 := bt1.trans (b2.mono bt1.size)
    clear bt1
    clear b2
    go_wp2_with fail
    go_ret
    exact ⟨rfl, bt2⟩
  · have hz1 : ¬ (0 : Int) < (i2 : Int) := by omega
    have HE : Hid (eqs x0 = 0) := by show _ = _; rw [← HI2.out]; omega
    go_wp2_with fail
    refine (ranks_any _ x0 _ R_v0.out (by rw [← HL0.out]; omega)).mono ?_
    rintro e W2 ⟨u1, rfl, o2, b2⟩
    replace R_v0 := Lib.hid (R_v0.out.below b2)
    have bt2 : Below w.heap.size w W2 := bt1.trans (b2.mono bt1.size)
    clear bt1
    clear b2
    have R_u1 := Lib.hid o2.ro
    clear o2
    have hlr : (ranks x0).length = l0 := by rw [ranks_len, ← HL0.out]
    obtain ⟨A_u1, c_u1, b_u1, off_u1, rfl, hnc_u1, hcm_u1, -, -⟩ := R_u1.out.shape
    rw [hlr] at R_u1 hnc_u1 ⊢
    have HLR := Lib.hid hlr
    clear hlr
    unfold maxLen at hcm_u1
    clear hz
    obtain ⟨W3, hmk, hmm, hb3⟩ := make_bools W2 l0 n0
    obtain ⟨sb, hsb⟩ : ∃ sb, sb = W2.heap.size := ⟨_, rfl⟩
    rw [← hsb] at hmk hmm
    have HM3 := Lib.hid hmm
    have HB3 := Lib.hid hb3
    have HSB := Lib.hid hsb
    clear hmm hsb hb3
    go_wp2_with fail
    clear hmk
    go_loopg [30, 5] l0 (fun kx s30 s5 wr => ∃ (i : Nat) (z : Int) (S : List Nat) (sn : Nat → Bool), s30 = .int .i64 i ∧ s5 = .int .i64 z ∧ i ≤ l0 ∧ l0 - i ≤ kx ∧ 0 ≤ z ∧ z ≤ 1048576 ∧ S.length ≤ i ∧ Hid (z = (l0 : Int) - (S.length : Int)) ∧ Hid (Below W2.heap.size W2 wr) ∧ Hid (Marks sb l0 sn wr) ∧ Hid (∀ t, t < i → sn t = true) ∧ Hid (∀ f, Resp x0 f → ∀ t, t < l0 → sn t = true → ∃ s ∈ S, f t = f s))
    case atStart => exact ⟨0, (l0 : Int), [], fun _ => false, rfl, rfl, Nat.zero_le _, by omega, by omega, by omega, Nat.le_refl _, by show (l0 : Int) = _; simp, HB3.out, HM3.out, fun t ht => absurd ht (Nat.not_lt_zero _), fun f _ t _ h => absurd h (by simp)⟩
    case round =>
      clear HM3
      obtain ⟨i, z, S, sn, rfl, rfl, hi, hik, hz0, hzl, hSi, HZ, HBW, HM, HT, HF⟩ := hrel
      by_cases hlt : i < l0
      · have hc := (HM.out i hlt).1
        have iz : (0 : Int) ≤ (i : Int) := by omega
        have ilz : (i : Int) < (l0 : Int) := by omega
        cases hsn : sn i with
        | true =>
          rw [hsn] at hc
          have HT2 : Hid (∀ t, t < i + 1 → sn t = true) := fun t ht => by
            rcases Nat.lt_or_ge t i with h | h
            · exact HT.out t h
            · obtain rfl : t = i := by omega
              exact hsn
          clear hsn
          go_wp2_with fail
          go_roundg (l0 - (i + 1))
          case measure => omega
          case rel => exact ⟨i + 1, z, S, sn, by go_num, rfl, by omega, by omega, hz0, hzl, by omega, HZ.out, HBW.out, HM.out, HT2.out, HF.out⟩
        | false =>
          rw [hsn] at hc
          have hz1 : 1 ≤ z := by have := HZ.out; omega
          have HSN := Lib.hid hsn
          have HST : Hid (∀ f, Resp x0 f → ∀ t, t < l0 → sn t = true → ∃ s ∈ i :: S, f t = f s) := fun f hf t h1 h2 => by
            obtain ⟨s, h3, h4⟩ := HF.out f hf t h1 h2
            exact ⟨s, List.mem_cons_of_mem _ h3, h4⟩
          clear hsn
          go_wp2_with fail
          clear hc
          go_loopg [7] l0 (fun gx s7 wr2 => ∃ (k : Nat) (sm : Nat → Bool), s7 = .int .i64 k ∧ k < l0 ∧ bare l0 sm ≤ gx ∧ Hid (Below W2.heap.size W2 wr2) ∧ Hid (Marks sb l0 sm wr2) ∧ Hid (∀ t, sn t = true → sm t = true) ∧ Hid (k = i ∨ sm i = true) ∧ Hid (∀ f, Resp x0 f → f k = f i) ∧ Hid (∀ f, Resp x0 f → ∀ t, t < l0 → sm t = true → ∃ s ∈ i :: S, f t = f s))
          case atStart => exact ⟨i, sn, rfl, hlt, bare_le _ _, HBW.out, HM.out, fun t h => h, .inl rfl, fun f _ => rfl, HST.out⟩
          case round =>
            clear HM HBW
            obtain ⟨k, sm, rfl, hk, hkb, HBW, HM, HSM, HKI, HFK, HFS⟩ := hrel
            have hc := (HM.out k hk).1
            have fz := (HM.out k hk).2
            have kz : (0 : Int) ≤ (k : Int) := by omega
            have klz : (k : Int) < (l0 : Int) := by omega
            cases hsm : sm k with
            | true =>
              rw [hsm] at hc
              have HT2 : Hid (∀ t, t < i + 1 → sm t = true) := fun t ht => by
                rcases Nat.lt_or_ge t i with h | h
                · exact HSM.out t (HT.out t h)
                · obtain rfl : t = i := by omega
                  rcases HKI.out with e | e
                  · rw [← e]; exact hsm
                  · exact e
              have HZ2 : Hid (z - 1 = (l0 : Int) - ((i :: S).length : Int)) := by
                have := HZ.out
                show z - 1 = _
                rw [List.length_cons]
                omega
              clear hsm
              go_wp2_with fail
              go_roundg (l0 - (i + 1))
              case measure => omega
              case rel => exact ⟨i + 1, z - 1, i :: S, sm, by go_num, rfl, by omega, by omega, by omega, by omega, by rw [List.length_cons]; omega, HZ2.out, HBW.out, HM.out, HT2.out, HFS.out⟩
            | false =>
              rw [hsm] at hc
              obtain ⟨v, hv⟩ : ∃ v, x0[k]? = some v := ⟨x0[k]'(by rw [← HL0.out]; exact hk), List.getElem?_eq_getElem _⟩
              obtain ⟨r, hr⟩ : ∃ r, r = rank x0 v := ⟨_, rfl⟩
              have hrx : (ranks x0)[k]? = some (r : Int) := by rw [hr]; exact ranks_get x0 k v hv
              obtain ⟨b1, o1, e1, hc0, hbl1⟩ := R_u1.out.at hrx
              subst e1
              have hc1 : wr.cell? ⟨b1, o1 + k, none⟩ = some (.int .i64 (r : Int)) := (HBW.out.cell (p := ⟨b1, o1 + k, none⟩) hbl1).trans hc0
              have hrl : r < l0 := by
                rw [hr, HL0.out, ← asc_len x0, ← uni_nodup (eqs_nodup HE.out)]
                exact rank_lt_len (List.mem_of_getElem? hv)
              have hbs : b1 ≠ sb := by have := HSB.out; omega
              have hms : bare l0 (fun t => if t = k then true else sm t) < bare l0 sm := bare_set hk hsm
              have HM2 := Lib.hid (HM.out.set hk)
              have HBW2 := Lib.hid (HBW.out.setCell (p := ⟨sb, k, none⟩) (by rw [HSB.out]; exact Nat.le_refl _) (.bool true))
              have HSM2 : Hid (∀ t, sn t = true → (if t = k then true else sm t) = true) := fun t h => by
                by_cases e : t = k
                · rw [if_pos e]
                · rw [if_neg e]; exact HSM.out t h
              have HKI2 : Hid (r = i ∨ (if i = k then true else sm i) = true) := .inr (by
                by_cases e : i = k
                · rw [if_pos e]
                · rw [if_neg e]
                  rcases HKI.out with e2 | e2
                  · exact absurd e2.symm e
                  · exact e2)
              have HFK2 : Hid (∀ f, Resp x0 f → f r = f i) := fun f hf => by rw [hr, ← hf k v hv]; exact HFK.out f hf
              have HFS2 : Hid (∀ f, Resp x0 f → ∀ t, t < l0 → (if t = k then true else sm t) = true → ∃ s ∈ i :: S, f t = f s) := fun f hf t h1 h2 => by
                by_cases e : t = k
                · exact ⟨i, by simp, by rw [e]; exact HFK.out f hf⟩
                · rw [if_neg e] at h2; exact HFS.out f hf t h1 h2
              have hc1s : ((wr.setCell ⟨sb, k, none⟩ (.bool true))).cell? ⟨b1, o1 + k, none⟩ = some (.int .i64 (r : Int)) := by
                rw [World.cell?_setCell_other _ _ _ _ (fun e => by simp only [Addr.mk.injEq, and_true] at e; exact hbs e.1.symm)]; exact hc1
              clear hsm hv hr hrx hbl1 hc0
              go_wp2_with fail
              go_roundg (bare l0 (fun t => if t = k then true else sm t))
              case measure => omega
              case rel => exact ⟨r, fun t => if t = k then true else sm t, rfl, hrl, Nat.le_refl _, HBW2.out, HM2.out, HSM2.out, HKI2.out, HFK2.out, HFS2.out⟩
      · obtain rfl : i = l0 := by omega
        have HSF : Hid (∀ f, Resp x0 f → ∀ p, p < x0.length → ∃ s ∈ S, f p = f s) := fun f hf p hp => HF.out f hf p (by rw [HL0.out]; exact hp) (HT.out p (by rw [HL0.out]; exact hp))
        replace R_v0 := Lib.hid (R_v0.out.below HBW.out)
        have bt3 : Below w.heap.size w wr := bt2.trans (HBW.out.mono bt2.size)
        clear R_u1 HM HT HF HBW HB3 bt2
        go_wp2_with fail
        refine (swaps_any _ x0 _ R_v0.out (by rw [← HL0.out]; omega)).mono ?_
        rw [← HL0.out]
        rintro e W4 ⟨g4, cp4, k4, rfl, o4, b4, hk4, hd4⟩
        have kb4 := most_sort n0 hk4
        rw [wrap_small (Nat.le_trans kb4 (by omega))]
        replace R_v0 := Lib.hid (R_v0.out.below b4)
        have bt4 : Below w.heap.size w W4 := bt3.trans (b4.mono bt3.size)
        clear bt3
        clear b4
        have HD4 := Lib.hid hd4
        clear o4 hk4 hd4
        have t4 : z ≤ (k4 : Int) := by
          obtain ⟨d, h1, h2⟩ := HD4.out
          have h := least_up HE.out (by rw [← HL0.out]; exact h1) h2 S HSF.out
          have hz := HZ.out
          rw [← HL0.out] at h
          omega
        go_wp2_with fail
        refine (stableSwaps_any _ x0 _ R_v0.out (by rw [← HL0.out]; omega)).mono ?_
        rw [← HL0.out]
        rintro e W5 ⟨g5, cp5, k5, rfl, o5, b5, hk5, hd5⟩
        have kb5 := most_stable n0 hk5
        rw [wrap_small (Nat.le_trans kb5 (by omega))]
        replace R_v0 := Lib.hid (R_v0.out.below b5)
        have bt5 : Below w.heap.size w W5 := bt4.trans (b5.mono bt4.size)
        clear bt4
        clear b5
        have HD5 := Lib.hid hd5
        clear o5 hk5 hd5
        have t5 : z ≤ (k5 : Int) := by
          obtain ⟨d, h1, h2⟩ := HD5.out
          have h := least_up HE.out (by rw [← HL0.out]; exact h1) h2 S HSF.out
          have hz := HZ.out
          rw [← HL0.out] at h
          omega
        go_wp2_with fail
        refine (works_any _).mono ?_
        rintro e W6 ⟨rfl, b6⟩
        replace R_v0 := Lib.hid (R_v0.out.below b6)
        have bt6 : Below w.heap.size w W6 := bt5.trans (b6.mono bt5.size)
        clear bt5
        clear b6
        go_wp2_with fail
        go_ret
        exact ⟨rfl, bt6⟩

end Go.Proofs.Ytiioojnoggcnmaa

/-
  What is proved here: the contracts of the reference model's key and before: the last key that parts two rows tells; condition: at most 2^44 keys.
-/
import Derived.Test.YtiioojnoggcnmaaSpecRowsPlain
import Derived.Test.YtiioojnoggcnmaaOutK
import Derived.Deep.RegionHeld3
namespace Go.Proofs.Ytiioojnoggcnmaa
open Go.RowKit
set_option linter.unusedVariables false

set_option maxRecDepth 100000 in
set_option maxHeartbeats 1000000 in
theorem key_any (p q r k : Int) (w : World) :
    Calls Try.prog 59 #[.agg #[.int .i64 p, .int .i64 q, .int .i64 r], .int .i64 k] w fun e w' => e = .returned (.int .i64 (keyOf (k % 3).toNat (p, q, r))) ∧ Below w.heap.size w w' := by
  obtain ⟨t, ht⟩ : ∃ t, t = k % 3 := ⟨_, rfl⟩
  have ht0 : 0 ≤ t := by rw [ht]; exact Int.emod_nonneg _ (by decide)
  have ht3 : t < 3 := by rw [ht]; exact Int.emod_lt_of_pos _ (by decide)
  rw [← ht]
  have HT := Lib.hid ht
  clear ht
  obtain h | h | h : t = 0 ∨ t = 1 ∨ t = 2 := by omega
  all_goals
    subst h
    go_enter Try.func59, Try.ntmps59
    go_wp2_with fail
    refine (specAt_any _ _ _ (by omega) (by omega)).mono ?_
    rintro e w' ⟨rfl, rfl⟩
    rw [← HT.out]
    go_wp2_with fail
    go_ret
    exact ⟨rfl, (Below.refl _ _).alloc (Nat.le_refl _) _⟩

theorem below_step {w W W' : World} (h : Below w.heap.size w W) (h' : Below W.heap.size W W') : Below w.heap.size w W' := h.trans (h'.mono h.size)

set_option maxRecDepth 100000 in
set_option maxHeartbeats 4000000 in
theorem before_any (a1 a2 a3 b1 b2 b3 : Int) (vk : Value) (ks : List Int) (w : World) (hk : Ro w vk ks) (hn : ks.length ≤ 17592186044416) :
    Calls Try.prog 40 #[.agg #[.int .i64 a1, .int .i64 a2, .int .i64 a3], .agg #[.int .i64 b1, .int .i64 b2, .int .i64 b3], vk] w fun e w' => e = .returned (.bool (ltKeys ks (a1, a2, a3) (b1, b2, b3))) ∧ Below w.heap.size w w' := by
  have HRK := Lib.hid hk
  obtain ⟨A, c, b, off, rfl, hnc, hcm, ha, hcell⟩ := hk
  obtain ⟨n, hxn⟩ : ∃ n, n = ks.length := ⟨_, rfl⟩
  rw [← hxn] at hn hnc ha HRK ⊢
  have HX := Lib.hid hxn
  have HC := Lib.hid hcell
  have HA := Lib.hid ha
  clear hcell ha hxn
  unfold maxLen at hcm
  obtain ⟨W1, hW1⟩ : ∃ W1, W1 = (w.alloc (.cells #[.int .i64 a1, .int .i64 a2, .int .i64 a3] 45)).alloc (.cells #[.int .i64 b1, .int .i64 b2, .int .i64 b3] 45) := ⟨_, rfl⟩
  have hb1 : Below w.heap.size w W1 := by rw [hW1]; exact ((Below.refl _ _).alloc (Nat.le_refl _) _).alloc (by simp) _
  have hs1 : W1.heap.size = w.heap.size + 2 := by rw [hW1]; simp
  have HCELL : Hid ((W1.cell? ⟨w.heap.size, 0, none⟩ = some (.int .i64 a1) ∧ W1.cell? ⟨w.heap.size, 1, none⟩ = some (.int .i64 a2) ∧ W1.cell? ⟨w.heap.size, 2, none⟩ = some (.int .i64 a3)) ∧ W1.cell? ⟨w.heap.size + 1, 0, none⟩ = some (.int .i64 b1) ∧ W1.cell? ⟨w.heap.size + 1, 1, none⟩ = some (.int .i64 b2) ∧ W1.cell? ⟨w.heap.size + 1, 2, none⟩ = some (.int .i64 b3)) := by
    rw [hW1]
    exact ⟨⟨by simp [go_sem], by simp [go_sem], by simp [go_sem]⟩, by simp [go_sem], by simp [go_sem], by simp [go_sem]⟩
  have HB1 := Lib.hid hb1
  go_enter Try.func40, Try.ntmps40
  go_wp2_with fail
  rw [← hW1]
  clear hW1 hb1
  go_loopg [7] n (fun kx s7 wr => ∃ (j : Nat) (z : Int), s7 = .int .i64 z ∧ z = (j : Int) - 1 ∧ j ≤ n ∧ j ≤ kx ∧ Hid (Below W1.heap.size W1 wr) ∧ Hid (ltKeys (ks.take j) (a1, a2, a3) (b1, b2, b3) = ltKeys ks (a1, a2, a3) (b1, b2, b3)))
  case atStart => exact ⟨n, (n : Int) - 1, rfl, rfl, Nat.le_refl _, Nat.le_refl _, Below.refl _ _, by show ltKeys (ks.take n) _ _ = _; rw [List.take_of_length_le (by rw [← HX.out]; exact Nat.le_refl _)]⟩
  case round =>
    obtain ⟨j, z, rfl, hz, hj, hjk, HB, HE⟩ := hrel
    cases j with
    | zero =>
      have hz1 : ¬ 0 ≤ z := by omega
      have hz2 : z < 0 := by omega
      have HF : Hid (ltKeys ks (a1, a2, a3) (b1, b2, b3) = false) := by show _ = _; rw [← HE.out]; rfl
      clear hz
      go_wp2_with fail
      go_ret
      exact ⟨by rw [HF.out]; rfl, HB1.out.trans (HB.out.mono HB1.out.size)⟩
    | succ j =>
      have hz1 : z = (j : Int) := by omega
      subst hz1
      clear hz
      obtain ⟨kz, hkz⟩ : ∃ kz, ks[j]? = some kz := ⟨ks[j]'(by rw [← HX.out]; omega), List.getElem?_eq_getElem _⟩
      obtain ⟨rfl, hbl⟩ := HA.out (by omega)
      have hbw : Below w.heap.size w wr := HB1.out.trans (HB.out.mono HB1.out.size)
      have hck : wr.cell? ⟨b, off + j, none⟩ = some (.int .i64 kz) := (hbw.cell (p := ⟨b, off + j, none⟩) hbl).trans (HC.out j kz hkz)
      have HST := Lib.hid (ltKeys_take hkz (a1, a2, a3) (b1, b2, b3))
      obtain ⟨x, hx⟩ : ∃ x, x = keyOf (kz % 3).toNat (a1, a2, a3) := ⟨_, rfl⟩
      obtain ⟨y, hy⟩ : ∃ y, y = keyOf (kz % 3).toNat (b1, b2, b3) := ⟨_, rfl⟩
      rw [← hx, ← hy] at HST
      have HXE := Lib.hid hx.symm
      have HYE := Lib.hid hy.symm
      have hblr : b < wr.heap.size := Nat.lt_of_lt_of_le hbl hbw.size
      have hwr : W1.heap.size ≤ wr.heap.size := HB.out.size
      have KS : Hid (∀ W, Below wr.heap.size wr W → W.cell? ⟨w.heap.size, 0, none⟩ = some (.int .i64 a1) ∧ W.cell? ⟨w.heap.size, 1, none⟩ = some (.int .i64 a2) ∧ W.cell? ⟨w.heap.size, 2, none⟩ = some (.int .i64 a3) ∧ W.cell? ⟨w.heap.size + 1, 0, none⟩ = some (.int .i64 b1) ∧ W.cell? ⟨w.heap.size + 1, 1, none⟩ = some (.int .i64 b2) ∧ W.cell? ⟨w.heap.size + 1, 2, none⟩ = some (.int .i64 b3) ∧ W.cell? ⟨b, off + j, none⟩ = some (.int .i64 kz)) := fun W hW => by
        have hh : Below W1.heap.size W1 W := HB.out.trans (hW.mono HB.out.size)
        have c := HCELL.out
        exact ⟨(hh.cell (p := ⟨w.heap.size, 0, none⟩) (by rw [hs1]; simp)).trans c.1.1, (hh.cell (p := ⟨w.heap.size, 1, none⟩) (by rw [hs1]; simp)).trans c.1.2.1, (hh.cell (p := ⟨w.heap.size, 2, none⟩) (by rw [hs1]; simp)).trans c.1.2.2, (hh.cell (p := ⟨w.heap.size + 1, 0, none⟩) (by rw [hs1]; simp)).trans c.2.1, (hh.cell (p := ⟨w.heap.size + 1, 1, none⟩) (by rw [hs1]; simp)).trans c.2.2.1, (hh.cell (p := ⟨w.heap.size + 1, 2, none⟩) (by rw [hs1]; simp)).trans c.2.2.2, (hW.cell (p := ⟨b, off + j, none⟩) hblr).trans hck⟩
      have hB0 : Below wr.heap.size wr wr.drew := (Below.refl _ _).drew
      have jz0 : (0 : Int) ≤ (j : Int) := by omega
      have jzn : (j : Int) < (n : Int) := by omega
      clear hx hy hkz hck hbw
      go_wp2_with fail
      go_region_held3 (fun W => W.cell? ⟨w.heap.size, 0, none⟩ = some (.int .i64 a1) ∧ W.cell? ⟨w.heap.size, 1, none⟩ = some (.int .i64 a2) ∧ W.cell? ⟨w.heap.size, 2, none⟩ = some (.int .i64 a3) ∧ W.cell? ⟨w.heap.size + 1, 0, none⟩ = some (.int .i64 b1) ∧ W.cell? ⟨w.heap.size + 1, 1, none⟩ = some (.int .i64 b2) ∧ W.cell? ⟨w.heap.size + 1, 2, none⟩ = some (.int .i64 b3) ∧ W.cell? ⟨b, off + j, none⟩ = some (.int .i64 kz)) (first | exact KS.out _ hB0 | exact KS.out _ (by assumption))
        (first
          | (go_at_call 59; refine (key_any _ _ _ _ _).mono ?_; rw [HXE.out]; rintro e w' ⟨rfl, hbx⟩; have hB1 := below_step (by assumption) hbx; clear hbx)
          | (go_at_call 59; refine (key_any _ _ _ _ _).mono ?_; rw [HYE.out]; rintro e w' ⟨rfl, hby⟩; have hB2 := below_step (by assumption) hby; clear hby))
      have HBn := Lib.hid (HB.out.trans (hB2.mono HB.out.size))
      clear hB0 hB1 hB2 KS
      by_cases hxy : x = y
      · have HE2 : Hid (ltKeys (ks.take j) (a1, a2, a3) (b1, b2, b3) = ltKeys ks (a1, a2, a3) (b1, b2, b3)) := by show _ = _; rw [← HE.out, HST.out, if_pos hxy]
        clear HST HXE HYE
        subst hxy
        go_wp2_with fail
        go_roundg j
        case measure => omega
        case rel => exact ⟨j, (j : Int) - 1, rfl, rfl, by omega, Nat.le_refl _, HBn.out, HE2.out⟩
      · have HE2 : Hid (ltKeys ks (a1, a2, a3) (b1, b2, b3) = decide (x < y)) := by show _ = _; rw [← HE.out, HST.out, if_neg hxy]
        have hxy2 : (x != y) = true := by simpa using hxy
        clear HST HXE HYE
        go_wp2_with fail
        go_ret
        exact ⟨by rw [HE2.out]; rfl, HB1.out.trans (HBn.out.mono HB1.out.size)⟩

end Go.Proofs.Ytiioojnoggcnmaa

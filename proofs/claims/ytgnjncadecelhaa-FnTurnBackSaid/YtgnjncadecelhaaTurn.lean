/-
  What is proved here: the contract of Turn of the thin package; condition: at most 2^44 elements.
-/
import Derived.Test.YtgnjncadecelhaaOut
import Derived.Test.YtgnjncadecelhaaSetPlain
import Derived.Test.YtgnjncadecelhaaUnite
import Derived.Deep.RegionLaw
namespace Go.Proofs.Ytgnjncadecelhaa
open Go.RowKit
set_option linter.unusedVariables false

theorem turn_nil {x : List Int} {k : Int} (h : uni x = []) : turn x k = [] := by unfold turn; rw [h]; simp

set_option maxRecDepth 100000 in
set_option maxHeartbeats 2000000 in
theorem turn_any (va : Value) (xs : List Int) (k : Int) (w : World) (ha : Ro w va xs) (hn : xs.length ≤ 17592186044416) :
    Calls Try.prog 38 #[va, .int .i64 k] w (Made 3 (turn xs k) w) := by
  have HRA := Lib.hid ha
  clear ha
  go_enter Try.func38, Try.ntmps38
  go_wp2_with fail
  refine (unite_any _ (.slice none 0 0) xs [] _ HRA.out (ro_nil _) (by simp; exact hn)).mono ?_
  rintro e w4 ⟨v4, rfl, ho4, hb4⟩
  rw [List.append_nil] at ho4
  have hul : (uni xs).length ≤ 17592186044416 := Nat.le_trans (uni_len xs) hn
  have hs4 := hb4.size
  obtain ⟨A4, c4, g4, rfl, hc4, hm4, hA4⟩ := ho4.shape
  obtain ⟨l, hl⟩ : ∃ l, l = uni xs := ⟨_, rfl⟩
  rw [← hl] at ho4 hc4 hA4 hul ⊢
  obtain ⟨N, hN⟩ : ∃ N, N = l.length := ⟨_, rfl⟩
  rw [← hN] at ho4 hc4 hA4 hul ⊢
  have HO4 := Lib.hid ho4
  have HLN := Lib.hid hN
  have HL := Lib.hid hl
  unfold maxLen at hm4
  rcases Nat.eq_zero_or_pos N with h0 | h0
  · have hres : turn xs k = l := by rw [turn_nil (by rw [← hl]; exact List.eq_nil_of_length_eq_zero (by rw [← hN]; exact h0)), List.eq_nil_of_length_eq_zero (l := l) (by rw [← hN]; exact h0)]
    have HRS := Lib.hid hres
    subst h0
    clear ho4 hA4 hN hl hres
    go_wp2_with fail
    go_ret
    exact ⟨_, rfl, (by rw [HRS.out]; exact HO4.out), hb4⟩
  · obtain rfl := hA4 h0
    obtain ⟨q, hq⟩ : ∃ q : Nat, (q : Int) = k % (N : Int) := ⟨(k % (N : Int)).toNat, by have := Int.emod_nonneg k (show (N : Int) ≠ 0 by omega); omega⟩
    have hqN : q < N := by have := Int.emod_lt_of_pos k (show (0 : Int) < (N : Int) by omega); omega
    have HT := Lib.hid (show turn xs k = l.drop q ++ l.take q by unfold turn; rw [← hl, ← hN, ← hq]; rfl)
    have HQ := Lib.hid hq
    have hn0 : ¬ N = 0 := by omega
    have hn1 : ((N : Int) == 0) = false := by simpa using hn0
    clear ho4 hA4 hN hl hq
    go_wp2_with fail
    refine (at_any k (N : Int) _ (by omega) (by omega)).mono ?_
    rw [← HQ.out]
    rintro e w' ⟨rfl, rfl⟩
    have y0 : (0 : Int) ≤ (q : Int) := by omega
    have y1 : (q : Int) ≤ (N : Int) := by omega
    have y2 : (q : Int) ≤ (c4 : Int) := by omega
    have y3 : (N : Int) ≤ (c4 : Int) := by omega
    go_wp2_with fail
    have HS1 := Lib.hid (src_drop HO4.out q (by rw [← HLN.out]; omega))
    have HS2 := Lib.hid (src_take HO4.out q (by rw [← HLN.out]; omega))
    rw [← HLN.out] at HS1
    go_region_law ((first
      | (refine step_app _ (by rfl) (.tmp 16) (.tmp 19) (by rfl) ints_ok w.heap.size w4.heap.size 0 0 [] (by go_simp) ((ownE w4 hs4).drew) (if c4 = q then some ⟨g4, 0, none⟩ else some ⟨g4, q, none⟩) (N - q) (c4 - q) ((l.drop q).map (Value.int .i64)) (by go_simp) ((HS1.out.alloc _).drew) (by unfold maxLen; omega) (by omega) (by simp; omega) (N - q) (by omega) _ rfl ?_; intro g2 cap2 w2 hown2 hgrow2 hat2)
      | (refine step_app _ (by rfl) (.tmp 20) (.tmp 23) (by rfl) ints_ok w.heap.size g2 (N - q) cap2 _ (by go_simp) hown2 (some ⟨g4, 0, none⟩) q c4 ((l.take q).map (Value.int .i64)) (by go_simp) (HS2.out.below (below_app hgrow2 (Nat.le_refl _) ((Below.refl _ _).drew.alloc (Nat.le_refl _) _))) (by unfold maxLen; omega) (by omega) (by have := hgrow2.size; simp at this; omega) N (by omega) _ rfl ?_; intro g3 cap3 w3 hown3 hgrow3 hat3)))
    have hb2 : Below w4.heap.size w4 w2 := below_app hgrow2 (Nat.le_refl _) ((Below.refl _ _).drew.alloc (Nat.le_refl _) _)
    have hb3 : Below w4.heap.size w4 w3 := below_app hgrow3 (by rcases hat2 with h | h <;> (try simp at h) <;> omega) hb2
    have hO3 : Own 3 w.heap.size w3 (.slice (some ⟨g3, 0, none⟩) N cap3) (l.drop q ++ l.take q) := by
      refine own_ro ?_ ?_
      · rw [List.map_append]; exact hown3
      · rw [List.length_append, List.length_drop, List.length_take, ← HLN.out]; omega
    have HO3 := Lib.hid hO3
    clear hown2 hown3 hgrow2 hgrow3 hat2 hat3 hO3
    go_wp2_with fail
    go_ret
    exact ⟨_, rfl, (by rw [HT.out]; exact HO3.out), hb4.trans (hb3.mono hs4)⟩

end Go.Proofs.Ytgnjncadecelhaa

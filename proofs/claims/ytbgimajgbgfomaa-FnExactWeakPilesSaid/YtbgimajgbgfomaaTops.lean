/-
  What is proved here: contracts of the reference's Piles and WeakPiles: they return the tops; condition: at most 2^21 elements.
-/
import Derived.Test.YtbgimajgbgfomaaPiles
import Derived.Test.YtbgimajgbgfomaaTopsPlain
import Derived.RegionTactic
import Derived.BigRegion
namespace Go.Proofs.Ytbgimajgbgfomaa
open Go.RowKit
set_option linter.unusedVariables false

/-- The row of the lengths: those that are known, then zeros. -/
def lens (n : Nat) (L : List Nat) : List Int := L.map (fun (l : Nat) => (l : Int)) ++ List.replicate (n - L.length) 0

theorem lens_len {n : Nat} {L : List Nat} (h : L.length ≤ n) : (lens n L).length = n := by simp [lens]; omega
theorem lens_at {n : Nat} {L : List Nat} {k : Nat} {l : Nat} (h : L[k]? = some l) : (lens n L)[k]? = some (l : Int) := by
  have := (List.getElem?_eq_some_iff.1 h).1
  unfold lens
  rw [List.getElem?_append_left (by simpa using this), List.getElem?_map, h]
  rfl
theorem lens_next {n : Nat} {L : List Nat} (h : L.length < n) : (lens n L)[L.length]? = some 0 := by
  unfold lens
  rw [List.getElem?_append_right (by simp), List.length_map, Nat.sub_self, List.getElem?_replicate, if_pos (by omega)]
theorem lens_snoc {n : Nat} {L : List Nat} (h : L.length < n) (r : Nat) : (lens n L).set L.length (r : Int) = lens n (L ++ [r]) := by
  unfold lens
  apply List.ext_getElem?
  intro j
  rw [List.getElem?_set]
  by_cases hj : L.length = j
  · subst hj
    rw [if_pos rfl, if_pos (by simp; omega), List.getElem?_append_left (by simp)]
    simp
  · rw [if_neg hj]
    by_cases hlt : j < L.length
    · rw [List.getElem?_append_left (by simpa using hlt), List.getElem?_append_left (by simp; omega)]
      rw [List.getElem?_map, List.getElem?_map, List.getElem?_append_left hlt]
    · rw [List.getElem?_append_right (by simp; omega), List.getElem?_append_right (by simp; omega)]
      simp only [List.length_map, List.length_append, List.length_singleton, List.getElem?_replicate]
      by_cases h2 : j < n
      · rw [if_pos (by omega), if_pos (by omega)]
      · rw [if_neg (by omega), if_neg (by omega)]

theorem lens_last {n : Nat} {L : List Nat} (h : L.length < n) (r q : Nat) : (lens n (L ++ [r])).set L.length (q : Int) = lens n (L ++ [q]) := by
  rw [← lens_snoc h r, List.set_set, lens_snoc h q]
theorem lens_at_last {n : Nat} {L : List Nat} (r : Nat) : (lens n (L ++ [r]))[L.length]? = some (r : Int) := lens_at (by simp)
theorem lens_at_old {n : Nat} {L : List Nat} {k l : Nat} (r : Nat) (h : L[k]? = some l) : (lens n (L ++ [r]))[k]? = some (l : Int) :=
  lens_at (by rw [List.getElem?_append_left (List.getElem?_eq_some_iff.1 h).1]; exact h)

theorem zip_take_snoc {X : List Int} {L : List Nat} {k : Nat} {x : Int} {l : Nat} (hx : X[k]? = some x) (hl : L[k]? = some l) : (X.take (k + 1)).zip (L.take (k + 1)) = (X.take k).zip (L.take k) ++ [(x, l)] := by
  have h1 := (List.getElem?_eq_some_iff.1 hx).1
  have h2 := (List.getElem?_eq_some_iff.1 hl).1
  rw [List.take_add_one, List.take_add_one, hx, hl, List.zip_append (by simp; omega)]
  rfl

theorem own_last {E : TypeId} {B n gm i r q : Nat} {L : List Nat} {w : World} (h : Own E B w (.slice (some ⟨gm, 0, none⟩) n n) (lens n (L ++ [r]))) (hL : L.length = i) (hi : i < n) :
    Own E B (w.setCell ⟨gm, i, none⟩ (.int .i64 (q : Int))) (.slice (some ⟨gm, 0, none⟩) n n) (lens n (L ++ [q])) := by
  subst hL
  have hl : ∀ r, (lens n (L ++ [r])).length = n := fun r => lens_len (by simp; omega)
  unfold Own at h ⊢
  rw [hl] at h ⊢
  have h2 := (h.stored L.length (.int .i64 (q : Int))).1
  rw [← List.map_set, lens_last hi] at h2
  exact h2

theorem own_set {E : TypeId} {B n g cap j : Nat} {T : List Int} {x : Int} {w : World} (h : Own E B w (.slice (some ⟨g, 0, none⟩) n cap) T) :
    Own E B (w.setCell ⟨g, j, none⟩ (.int .i64 x)) (.slice (some ⟨g, 0, none⟩) n cap) (T.set j x) := by
  obtain ⟨_, _, rfl, _⟩ := own_lt h
  unfold Own at h ⊢
  rw [List.length_set, List.map_set]
  exact (h.stored j (.int .i64 x)).1
theorem get_last (T : List Int) (x : Int) (j : Nat) (h : T.length = j) : (T ++ [x])[j]? = some x := by
  subst h
  simp
theorem set_last (T : List Int) (x : Int) (j : Nat) (h : T.length = j) : (T ++ [x]).set j x = T ++ [x] := by
  subst h
  rw [List.set_append_right _ _ (Nat.le_refl _), Nat.sub_self]
  rfl

/-- The state between two rounds of the outer loop. -/
def TopState (E : TypeId) (B n gm g cap : Nat) (T : List Int) (L : List Nat) (wr : World) : Prop :=
  Own E B wr (.slice (some ⟨gm, 0, none⟩) n n) (lens n L) ∧ Own E (B + 1) wr (.slice (some ⟨g, 0, none⟩) T.length cap) T

set_option maxRecDepth 100000 in
set_option maxHeartbeats 4000000 in
theorem tops_false (v : Value) (xs : List Int) (w : World) (h : Ro w v xs) (hn : xs.length ≤ 2097152) :
    Calls Try.prog 33 #[v, .bool false] w (Made 3 (piles false xs) w) := by
  obtain ⟨A, c, b, off, rfl, hnc, hcm, ha, hcell⟩ := h
  obtain ⟨n, hxn⟩ : ∃ n, n = xs.length := ⟨_, rfl⟩
  rw [← hxn] at hn hnc ha ⊢
  have HX := Lib.hid hxn
  have HC := Lib.hid hcell
  have HA := Lib.hid ha
  clear hxn hcell ha
  unfold maxLen at hcm
  obtain ⟨i0, hi, hz0, hz1, hz2⟩ := info_parts int_info
  go_enter Try.func33, Try.ntmps33
  go_wp2_with (at_make; refine wpList_make_full _ (by rfl) (.tmp 11) (.tmp 11) _ (by rfl) w.heap.size 3 i0 (.int .i64 0) 1 Try.underlying22 hi hz0 hz1 .i64 .i64 (n : Int) (n : Int) n (by rfl) (by rfl) rfl rfl (by rw [hz2]; omega) (by unfold maxLen; omega) (Nat.le_refl _) ?_; intro w0 hown hg)
  have hw0 : w.heap.size < w0.heap.size := (hown.lt _ rfl).2
  have hs0 : TopState 3 w.heap.size n w.heap.size w0.heap.size 0 [] [] (w0.alloc (.cells #[] 3)) := by
    refine ⟨?_, ownE (e := 3) (size := 1) w0 (by omega)⟩
    have h2 := toList_madeCells_one (.int .i64 0) n
    rw [show (Value.int IntKind.i64 0).cells = #[.int .i64 0] from rfl, Nat.mul_one] at hown
    rw [h2] at hown
    unfold Own
    rw [lens_len (Nat.zero_le _)]
    simp only [lens, List.map_nil, List.nil_append, List.length_nil, Nat.sub_zero, List.map_replicate]
    exact hown.alloc _
  have HS0 := Lib.hid hs0
  have hbel0 : Below w.heap.size w (w0.alloc (.cells #[] 3)) := ((Below.refl _ _).grown hg (Nat.le_refl _) (by simp)).alloc (by omega) _
  clear hs0 hown hg
  go_wp2_with fail
  go_loopg [6, 16] n (fun kx s6 s16 wr => ∃ i g cap m : Nat, ∃ (T : List Int) (L : List Nat), i ≤ n ∧ s16 = .int .i64 i ∧ s6 = .slice (some ⟨g, 0, none⟩) m cap ∧ n - i ≤ kx ∧ m ≤ i ∧ Below w.heap.size w wr ∧ w.heap.size < wr.heap.size ∧
    Hid (T.length = m) ∧ Hid (L.length = i) ∧ Hid (T = piles false (xs.take i)) ∧ Hid (TopsInv false (xs.take i) L T) ∧ Hid (TopState 3 w.heap.size n w.heap.size g cap T L wr))
  case atStart => exact ⟨0, w0.heap.size, 0, 0, [], [], Nat.zero_le _, rfl, rfl, by omega, by omega, hbel0, by simp; omega, rfl, rfl, rfl, tops_nil _, HS0.out⟩
  case round =>
    obtain ⟨i, g, cap, m, T, L, hi', rfl, rfl, hkk, hm, hb, hsz, HT, HL, HP, HI, HS⟩ := hrel
    clear HS0 hbel0
    obtain ⟨wo, rfl⟩ : ∃ wo : World, wo = wr := ⟨_, rfl⟩
    obtain ⟨hgB, hgl, _, hmc, hcap⟩ := own_lt HS.out.2
    rw [HT.out] at hmc
    unfold maxLen at hcap
    by_cases hlt : i < n
    · obtain ⟨x, hx⟩ : ∃ x, xs[i]? = some x := ⟨xs[i]'(by have := HX.out; omega), List.getElem?_eq_getElem _⟩
      obtain ⟨rfl, hbl⟩ := HA.out (by omega)
      have hc1 : wo.cell? ⟨b, off + i, none⟩ = some (.int .i64 x) := (hb.cell (p := ⟨b, off + i, none⟩) hbl).trans (HC.out i x hx)
      have hxt : (xs.take (i + 1)) = xs.take i ++ [x] := by rw [List.take_add_one, hx]; rfl
      have HXT := Lib.hid hxt
      clear hxt hx
      obtain ⟨q1, q2⟩ := own_cell HS.out.1 (show (lens n L)[i]? = some 0 by have := lens_next (n := n) (L := L) (by rw [HL.out]; exact hlt); rwa [HL.out] at this)
      have ho1 : Own 3 w.heap.size (wo.setCell ⟨w.heap.size, i, none⟩ (.int .i64 1)) (.slice (some ⟨w.heap.size, 0, none⟩) n n) (lens n (L ++ [1])) := by
        have h1 := HS.out.1
        unfold Own at h1
        rw [lens_len (by rw [HL.out]; omega)] at h1
        have h2 := (h1.stored i (.int .i64 1)).1
        have h3 := lens_snoc (n := n) (L := L) (by rw [HL.out]; exact hlt) 1
        rw [HL.out] at h3
        unfold Own
        rw [lens_len (by rw [List.length_append, HL.out]; simp; omega), ← h3, List.map_set]
        exact h2
      have ho2 : Own 3 (w.heap.size + 1) (wo.setCell ⟨w.heap.size, i, none⟩ (.int .i64 1)) (.slice (some ⟨g, 0, none⟩) T.length cap) T :=
        ownsRow_setCell_other HS.out.2 (by simp [Value.ownBlock]; omega) _
      have HO1 := Lib.hid ho1
      have HO2 := Lib.hid ho2
      have hbo : Below w.heap.size w (wo.setCell ⟨w.heap.size, i, none⟩ (.int .i64 1)) := hb.setCell (p := ⟨w.heap.size, i, none⟩) (Nat.le_refl _) _
      clear ho1 ho2
      go_wp2_with fail
      go_loopg [25] i (fun kx s25 wq => ∃ k r : Nat, k ≤ i ∧ s25 = .int .i64 k ∧ i - k ≤ kx ∧ 1 ≤ r ∧ r ≤ m + 1 ∧ Below w.heap.size w wq ∧ wo.heap.size ≤ wq.heap.size ∧ Hid (r = lfold false x (((xs.take i).take k).zip (L.take k))) ∧
        Hid (Own 3 w.heap.size wq (.slice (some ⟨w.heap.size, 0, none⟩) n n) (lens n (L ++ [r]))) ∧ Hid (Own 3 (w.heap.size + 1) wq (.slice (some ⟨g, 0, none⟩) T.length cap) T))
      case atStart => exact ⟨0, 1, Nat.zero_le _, rfl, by omega, by omega, by omega, hbo, by simp [World.setCell], rfl, HO1.out, HO2.out⟩
      case round =>
        obtain ⟨k, r, hk, rfl, hik, hr1, hrm, hbq, hszq, HR, HQ1, HQ2⟩ := hrel
        clear HO1 HO2 hbo hc1 q1 q2
        by_cases hkl : k < i
        · obtain ⟨y, hy⟩ : ∃ y, xs[k]? = some y := ⟨xs[k]'(by have := HX.out; omega), List.getElem?_eq_getElem _⟩
          obtain ⟨l, hl⟩ : ∃ l, L[k]? = some l := ⟨L[k]'(by rw [HL.out]; exact hkl), List.getElem?_eq_getElem _⟩
          have hy2 : (xs.take i)[k]? = some y := by rw [List.getElem?_take, if_pos hkl]; exact hy
          obtain ⟨hl1, t0, ht0, _⟩ := HI.out.2.2.1 k y l hy2 hl
          have hlm : l ≤ m := by have := (List.getElem?_eq_some_iff.1 ht0).1; rw [HT.out] at this; omega
          have hcy : wr.cell? ⟨b, off + k, none⟩ = some (.int .i64 y) := (hbq.cell (p := ⟨b, off + k, none⟩) hbl).trans (HC.out k y hy)
          obtain ⟨ci, fi⟩ := own_cell HQ1.out (show (lens n (L ++ [r]))[i]? = some (r : Int) by have := lens_at_last (n := n) (L := L) r; rwa [HL.out] at this)
          obtain ⟨ck, _⟩ := own_cell HQ1.out (lens_at_old r hl)
          have HR1 := Lib.hid (show lfold false x (((xs.take i).take (k + 1)).zip (L.take (k + 1))) = lstep false x (lfold false x (((xs.take i).take k).zip (L.take k))) (y, l) by rw [zip_take_snoc hy2 hl, lfold_snoc])
          clear hy hl hy2 ht0
          have z0 : (0 : Int) ≤ (i : Int) := by omega
          have z1 : (i : Int) < (n : Int) := by omega
          have z2 : (0 : Int) ≤ (k : Int) := by omega
          have z3 : (k : Int) < (n : Int) := by omega
          cases hf : fits false x y with
          | true =>
            have hxy : ¬ y < x := by simp [fits] at hf; omega
            have HF := Lib.hid hf
            clear hf
            go_wp2_with fail
            go_roundg (i - (k + 1))
            case measure => omega
            case rel =>
              refine ⟨k + 1, r, by omega, by go_num, by omega, hr1, hrm, hbq, hszq, ?_, HQ1.out, HQ2.out⟩
              show r = lfold false x _
              rw [HR1.out, ← HR.out]
              simp only [lstep, HF.out, if_true]
          | false =>
            have hyx : y < x := by simpa [fits] using hf
            have HF := Lib.hid hf
            clear hf
            rcases Nat.lt_or_ge r (l + 1) with hcmp | hcmp
            · have ho := own_last (q := l + 1) HQ1.out HL.out hlt
              have HO := Lib.hid ho
              clear ho
              go_wp2_with fail
              go_region
              all_goals go_wp2_with fail
              all_goals go_roundg (i - (k + 1))
              all_goals first | omega | skip
              all_goals
                refine ⟨k + 1, l + 1, by omega, by go_num, by omega, by omega, by omega, ?_, ?_, ?_, ?_, ?_⟩
                · exact (hbq.setCell (p := ⟨w.heap.size, i, none⟩) (Nat.le_refl _) _).drew
                · simp [World.setCell]; omega
                · show l + 1 = lfold false x _
                  rw [HR1.out, ← HR.out]
                  simp only [lstep, HF.out, Bool.false_eq_true, if_false]
                  omega
                · exact HO.out
                · exact ownsRow_setCell_other HQ2.out (by simp [Value.ownBlock]; omega) _
            · have ho := own_last (q := r) HQ1.out HL.out hlt
              have HO := Lib.hid ho
              clear ho
              go_wp2_with fail
              go_region
              all_goals go_wp2_with fail
              all_goals go_roundg (i - (k + 1))
              all_goals first | omega | skip
              all_goals
                refine ⟨k + 1, r, by omega, by go_num, by omega, by omega, by omega, ?_, ?_, ?_, ?_, ?_⟩
                · exact (hbq.setCell (p := ⟨w.heap.size, i, none⟩) (Nat.le_refl _) _).drew
                · simp [World.setCell]; omega
                · show r = lfold false x _
                  rw [HR1.out, ← HR.out]
                  simp only [lstep, HF.out, Bool.false_eq_true, if_false]
                  omega
                · exact HO.out
                · exact ownsRow_setCell_other HQ2.out (by simp [Value.ownBlock]; omega) _
        · obtain rfl : k = i := by omega
          have hr2 : r = lfold false x ((xs.take k).zip L) := by
            have := HR.out
            rwa [List.take_take, Nat.min_self, show L.take k = L from List.take_of_length_le (by rw [HL.out]; exact Nat.le_refl _)] at this
          have hplace := tops_place HI.out x r hr2
          have hN := tops_snoc HI.out x r hr2
          have HLL := Lib.hid (show (lens n (L ++ [r]))[k]? = some (r : Int) by have := lens_at_last (n := n) (L := L) r; rwa [HL.out] at this)
          clear hr2 HR hkl
          obtain ⟨i, rfl⟩ : ∃ i, i = k := ⟨_, rfl⟩
          have hci : wr.cell? ⟨w.heap.size, i, none⟩ = some (.int .i64 (r : Int)) := (own_cell HQ1.out HLL.out).1
          have z0 : (0 : Int) ≤ (i : Int) := by omega
          have z1 : (i : Int) < (n : Int) := by omega
          rcases Nat.lt_or_ge m r with hmr | hmr
          · clear hplace
            have hpp : pput false x T = T ++ [x] := by rw [hN.2, if_neg (by rw [HT.out]; omega)]
            have HPP := Lib.hid hpp
            have HN := Lib.hid hN.1
            clear hN hpp
            have hown : wr.ownsRow (w.heap.size + 1) 3 1 (.slice (some ⟨g, 0, none⟩) m cap) m (T.map (Value.int .i64)) := by
              have := HQ2.out; unfold Own at this; rwa [HT.out] at this
            have HO := Lib.hid hown
            clear hown
            go_wp2_with (at_builtin; refine wpList_app _ rfl (.tmp 66) (.tmp 68) rfl ints_ok (w.heap.size + 1) g m cap (T.map (Value.int .i64)) (by rfl) (HO.out.alloc _) _ 1 1 [.int .i64 x] (by rfl) (Src.one _ _ _) (by unfold maxLen; omega) (by omega) (by simp; omega) (m + 1) rfl _ rfl ?_; intro g2 cap2 w2 hown2 hgrow2 hat2; have ho2 : Own 3 (w.heap.size + 1) w2 (.slice (some ⟨g2, 0, none⟩) (m + 1) cap2) (T ++ [x]) := (by unfold Own; rw [List.length_append, HT.out, List.map_append]; exact hown2); have ho1 : Own 3 w.heap.size w2 (.slice (some ⟨w.heap.size, 0, none⟩) n n) (lens n (L ++ [r])) := World.ownsRow.kept (World.ownsRow.alloc HQ1.out _) hgrow2 (.inr (by simp [Value.ownBlock]; omega)); have hb2 : Below w.heap.size w w2 := (hbq.alloc (by omega) _).grown hgrow2 (by simp; omega) (fun k hk => by injection hk with hk; omega); have hg2 : w.heap.size + 1 ≤ g2 := (own_lt ho2).1; have hs2 : wr.heap.size < w2.heap.size := (by have := hgrow2.size; simp at this; omega); have hci : w2.cell? ⟨w.heap.size, i, none⟩ = some (.int .i64 (r : Int)) := (own_cell ho1 HLL.out).1; have hc2 := own_cell ho2 (show (T ++ [x])[r - 1]? = some x from get_last T x (r - 1) (by rw [HT.out]; omega)); have hc3 := hc2.1; have hc4 := hc2.2; have HO1 := Lib.hid ho1; have HO2 := Lib.hid ho2; clear ho1 ho2 hc2 hown2 hgrow2 hat2)
            have y1 : (r : Int) - 1 < (m : Int) + 1 := by omega
            have y2 : (0 : Int) ≤ (r : Int) - 1 := by omega
            go_region
            all_goals go_wp2_with fail
            all_goals go_roundg (n - (i + 1))
            all_goals first | omega | skip
            all_goals
              refine ⟨i + 1, g2, cap2, m + 1, T ++ [x], L ++ [r], by omega, by go_num, rfl, by omega, by omega, (hb2.setCell (p := ⟨g2, r - 1, none⟩) (by show w.heap.size ≤ g2; omega) _).drew, by simp [World.setCell]; omega, ?_, ?_, ?_, ?_, ?_⟩
              · show (T ++ [x]).length = m + 1; rw [List.length_append, HT.out]; rfl
              · show (L ++ [r]).length = i + 1; rw [List.length_append, HL.out]; rfl
              · show _ = piles false (xs.take (i + 1)); rw [HXT.out, piles_snoc, ← HP.out, HPP.out]
              · show TopsInv false (xs.take (i + 1)) (L ++ [r]) _; rw [HXT.out, ← HPP.out]; exact HN.out
              · exact ⟨ownsRow_setCell_other HO1.out (by simp [Value.ownBlock]; omega) _, (by have h5 := own_set (j := r - 1) (x := x) HO2.out; rw [set_last T x (r - 1) (by rw [HT.out]; omega)] at h5; rw [List.length_append, HT.out]; exact h5)⟩
          · skip
            have hpp : pput false x T = T.set (r - 1) x := by rw [hN.2, if_pos (by rw [HT.out]; omega)]
            have HPP := Lib.hid hpp
            have HN := Lib.hid hN.1
            clear hN hpp
            have ht : T[r - 1]? = some (T.getD (r - 1) 0) := by rw [List.getD_eq_getElem?_getD, List.getElem?_eq_getElem (by rw [HT.out]; omega)]; rfl
            have hft := hplace.2.2.2 (r - 1) (Nat.le_refl _) (by rw [HT.out]; omega)
            obtain ⟨hc3, hc4⟩ := own_cell HQ2.out ht
            generalize T.getD (r - 1) 0 = t at ht hft hc3
            have y1 : (r : Int) - 1 < (m : Int) := by omega
            have y2 : (0 : Int) ≤ (r : Int) - 1 := by omega
            clear hplace ht
            have hci : wr.cell? ⟨w.heap.size, i, none⟩ = some (.int .i64 (r : Int)) := (own_cell HQ1.out HLL.out).1
            have hxt : x ≤ t := by simpa [fits] using hft
            clear hft
            rcases Int.lt_or_eq_of_le hxt with hx1 | hx1
            · clear hxt
              go_wp2_with fail
              go_region
              all_goals go_wp2_with fail
              all_goals go_roundg (n - (i + 1))
              all_goals first | omega | skip
              all_goals
                refine ⟨i + 1, g, cap, m, T.set (r - 1) x, L ++ [r], by omega, by go_num, rfl, by omega, by omega, (hbq.setCell (p := ⟨g, r - 1, none⟩) (by show w.heap.size ≤ g; omega) _).drew, by simp [World.setCell]; omega, ?_, ?_, ?_, ?_, ?_⟩
                · show (T.set (r - 1) x).length = m; rw [List.length_set]; exact HT.out
                · show (L ++ [r]).length = i + 1; rw [List.length_append, HL.out]; rfl
                · show _ = piles false (xs.take (i + 1)); rw [HXT.out, piles_snoc, ← HP.out, HPP.out]
                · show TopsInv false (xs.take (i + 1)) (L ++ [r]) _; rw [HXT.out, ← HPP.out]; exact HN.out
                · exact ⟨ownsRow_setCell_other HQ1.out (by simp [Value.ownBlock]; omega) _, (by have h5 := own_set (j := r - 1) (x := x) HQ2.out; rw [List.length_set]; exact h5)⟩
            · subst hx1
              clear hxt
              go_wp2_with fail
              go_region
              all_goals go_wp2_with fail
              all_goals go_roundg (n - (i + 1))
              all_goals first | omega | skip
              all_goals
                refine ⟨i + 1, g, cap, m, T.set (r - 1) x, L ++ [r], by omega, by go_num, rfl, by omega, by omega, (hbq.setCell (p := ⟨g, r - 1, none⟩) (by show w.heap.size ≤ g; omega) _).drew, by simp [World.setCell]; omega, ?_, ?_, ?_, ?_, ?_⟩
                · show (T.set (r - 1) x).length = m; rw [List.length_set]; exact HT.out
                · show (L ++ [r]).length = i + 1; rw [List.length_append, HL.out]; rfl
                · show _ = piles false (xs.take (i + 1)); rw [HXT.out, piles_snoc, ← HP.out, HPP.out]
                · show TopsInv false (xs.take (i + 1)) (L ++ [r]) _; rw [HXT.out, ← HPP.out]; exact HN.out
                · exact ⟨ownsRow_setCell_other HQ1.out (by simp [Value.ownBlock]; omega) _, (by have h5 := own_set (j := r - 1) (x := x) HQ2.out; rw [List.length_set]; exact h5)⟩
    · obtain rfl : i = n := by omega
      go_wp2_with fail
      go_ret
      refine ⟨_, rfl, ?_, hb⟩
      have h1 := HS.out.2
      rw [HT.out] at h1
      have h2 := HP.out
      rw [List.take_of_length_le (by rw [← HX.out]; omega)] at h2
      rw [← h2]
      exact h1.mono (by omega)

set_option maxRecDepth 100000 in
set_option maxHeartbeats 4000000 in
theorem tops_true (v : Value) (xs : List Int) (w : World) (h : Ro w v xs) (hn : xs.length ≤ 2097152) :
    Calls Try.prog 33 #[v, .bool true] w (Made 3 (piles true xs) w) := by
  obtain ⟨A, c, b, off, rfl, hnc, hcm, ha, hcell⟩ := h
  obtain ⟨n, hxn⟩ : ∃ n, n = xs.length := ⟨_, rfl⟩
  rw [← hxn] at hn hnc ha ⊢
  have HX := Lib.hid hxn
  have HC := Lib.hid hcell
  have HA := Lib.hid ha
  clear hxn hcell ha
  unfold maxLen at hcm
  obtain ⟨i0, hi, hz0, hz1, hz2⟩ := info_parts int_info
  go_enter Try.func33, Try.ntmps33
  go_wp2_with (at_make; refine wpList_make_full _ (by rfl) (.tmp 11) (.tmp 11) _ (by rfl) w.heap.size 3 i0 (.int .i64 0) 1 Try.underlying22 hi hz0 hz1 .i64 .i64 (n : Int) (n : Int) n (by rfl) (by rfl) rfl rfl (by rw [hz2]; omega) (by unfold maxLen; omega) (Nat.le_refl _) ?_; intro w0 hown hg)
  have hw0 : w.heap.size < w0.heap.size := (hown.lt _ rfl).2
  have hs0 : TopState 3 w.heap.size n w.heap.size w0.heap.size 0 [] [] (w0.alloc (.cells #[] 3)) := by
    refine ⟨?_, ownE (e := 3) (size := 1) w0 (by omega)⟩
    have h2 := toList_madeCells_one (.int .i64 0) n
    rw [show (Value.int IntKind.i64 0).cells = #[.int .i64 0] from rfl, Nat.mul_one] at hown
    rw [h2] at hown
    unfold Own
    rw [lens_len (Nat.zero_le _)]
    simp only [lens, List.map_nil, List.nil_append, List.length_nil, Nat.sub_zero, List.map_replicate]
    exact hown.alloc _
  have HS0 := Lib.hid hs0
  have hbel0 : Below w.heap.size w (w0.alloc (.cells #[] 3)) := ((Below.refl _ _).grown hg (Nat.le_refl _) (by simp)).alloc (by omega) _
  clear hs0 hown hg
  go_wp2_with fail
  go_loopg [6, 16] n (fun kx s6 s16 wr => ∃ i g cap m : Nat, ∃ (T : List Int) (L : List Nat), i ≤ n ∧ s16 = .int .i64 i ∧ s6 = .slice (some ⟨g, 0, none⟩) m cap ∧ n - i ≤ kx ∧ m ≤ i ∧ Below w.heap.size w wr ∧ w.heap.size < wr.heap.size ∧
    Hid (T.length = m) ∧ Hid (L.length = i) ∧ Hid (T = piles true (xs.take i)) ∧ Hid (TopsInv true (xs.take i) L T) ∧ Hid (TopState 3 w.heap.size n w.heap.size g cap T L wr))
  case atStart => exact ⟨0, w0.heap.size, 0, 0, [], [], Nat.zero_le _, rfl, rfl, by omega, by omega, hbel0, by simp; omega, rfl, rfl, rfl, tops_nil _, HS0.out⟩
  case round =>
    obtain ⟨i, g, cap, m, T, L, hi', rfl, rfl, hkk, hm, hb, hsz, HT, HL, HP, HI, HS⟩ := hrel
    clear HS0 hbel0
    obtain ⟨wo, rfl⟩ : ∃ wo : World, wo = wr := ⟨_, rfl⟩
    obtain ⟨hgB, hgl, _, hmc, hcap⟩ := own_lt HS.out.2
    rw [HT.out] at hmc
    unfold maxLen at hcap
    by_cases hlt : i < n
    · obtain ⟨x, hx⟩ : ∃ x, xs[i]? = some x := ⟨xs[i]'(by have := HX.out; omega), List.getElem?_eq_getElem _⟩
      obtain ⟨rfl, hbl⟩ := HA.out (by omega)
      have hc1 : wo.cell? ⟨b, off + i, none⟩ = some (.int .i64 x) := (hb.cell (p := ⟨b, off + i, none⟩) hbl).trans (HC.out i x hx)
      have hxt : (xs.take (i + 1)) = xs.take i ++ [x] := by rw [List.take_add_one, hx]; rfl
      have HXT := Lib.hid hxt
      clear hxt hx
      obtain ⟨q1, q2⟩ := own_cell HS.out.1 (show (lens n L)[i]? = some 0 by have := lens_next (n := n) (L := L) (by rw [HL.out]; exact hlt); rwa [HL.out] at this)
      have ho1 : Own 3 w.heap.size (wo.setCell ⟨w.heap.size, i, none⟩ (.int .i64 1)) (.slice (some ⟨w.heap.size, 0, none⟩) n n) (lens n (L ++ [1])) := by
        have h1 := HS.out.1
        unfold Own at h1
        rw [lens_len (by rw [HL.out]; omega)] at h1
        have h2 := (h1.stored i (.int .i64 1)).1
        have h3 := lens_snoc (n := n) (L := L) (by rw [HL.out]; exact hlt) 1
        rw [HL.out] at h3
        unfold Own
        rw [lens_len (by rw [List.length_append, HL.out]; simp; omega), ← h3, List.map_set]
        exact h2
      have ho2 : Own 3 (w.heap.size + 1) (wo.setCell ⟨w.heap.size, i, none⟩ (.int .i64 1)) (.slice (some ⟨g, 0, none⟩) T.length cap) T :=
        ownsRow_setCell_other HS.out.2 (by simp [Value.ownBlock]; omega) _
      have HO1 := Lib.hid ho1
      have HO2 := Lib.hid ho2
      have hbo : Below w.heap.size w (wo.setCell ⟨w.heap.size, i, none⟩ (.int .i64 1)) := hb.setCell (p := ⟨w.heap.size, i, none⟩) (Nat.le_refl _) _
      clear ho1 ho2
      go_wp2_with fail
      go_loopg [25] i (fun kx s25 wq => ∃ k r : Nat, k ≤ i ∧ s25 = .int .i64 k ∧ i - k ≤ kx ∧ 1 ≤ r ∧ r ≤ m + 1 ∧ Below w.heap.size w wq ∧ wo.heap.size ≤ wq.heap.size ∧ Hid (r = lfold true x (((xs.take i).take k).zip (L.take k))) ∧
        Hid (Own 3 w.heap.size wq (.slice (some ⟨w.heap.size, 0, none⟩) n n) (lens n (L ++ [r]))) ∧ Hid (Own 3 (w.heap.size + 1) wq (.slice (some ⟨g, 0, none⟩) T.length cap) T))
      case atStart => exact ⟨0, 1, Nat.zero_le _, rfl, by omega, by omega, by omega, hbo, by simp [World.setCell], rfl, HO1.out, HO2.out⟩
      case round =>
        obtain ⟨k, r, hk, rfl, hik, hr1, hrm, hbq, hszq, HR, HQ1, HQ2⟩ := hrel
        clear HO1 HO2 hbo hc1 q1 q2
        by_cases hkl : k < i
        · obtain ⟨y, hy⟩ : ∃ y, xs[k]? = some y := ⟨xs[k]'(by have := HX.out; omega), List.getElem?_eq_getElem _⟩
          obtain ⟨l, hl⟩ : ∃ l, L[k]? = some l := ⟨L[k]'(by rw [HL.out]; exact hkl), List.getElem?_eq_getElem _⟩
          have hy2 : (xs.take i)[k]? = some y := by rw [List.getElem?_take, if_pos hkl]; exact hy
          obtain ⟨hl1, t0, ht0, _⟩ := HI.out.2.2.1 k y l hy2 hl
          have hlm : l ≤ m := by have := (List.getElem?_eq_some_iff.1 ht0).1; rw [HT.out] at this; omega
          have hcy : wr.cell? ⟨b, off + k, none⟩ = some (.int .i64 y) := (hbq.cell (p := ⟨b, off + k, none⟩) hbl).trans (HC.out k y hy)
          obtain ⟨ci, fi⟩ := own_cell HQ1.out (show (lens n (L ++ [r]))[i]? = some (r : Int) by have := lens_at_last (n := n) (L := L) r; rwa [HL.out] at this)
          obtain ⟨ck, _⟩ := own_cell HQ1.out (lens_at_old r hl)
          have HR1 := Lib.hid (show lfold true x (((xs.take i).take (k + 1)).zip (L.take (k + 1))) = lstep true x (lfold true x (((xs.take i).take k).zip (L.take k))) (y, l) by rw [zip_take_snoc hy2 hl, lfold_snoc])
          clear hy hl hy2 ht0
          have z0 : (0 : Int) ≤ (i : Int) := by omega
          have z1 : (i : Int) < (n : Int) := by omega
          have z2 : (0 : Int) ≤ (k : Int) := by omega
          have z3 : (k : Int) < (n : Int) := by omega
          cases hf : fits true x y with
          | true =>
            have hxy : x < y := by simpa [fits] using hf
            have HF := Lib.hid hf
            clear hf
            have d1 : decide (y < x) = false := by simp; omega
            have d2 : (y == x) = false := by simp; omega
            go_wp2_with fail
            go_roundg (i - (k + 1))
            case measure => omega
            case rel =>
              refine ⟨k + 1, r, by omega, by go_num, by omega, hr1, hrm, hbq, hszq, ?_, HQ1.out, HQ2.out⟩
              show r = lfold true x _
              rw [HR1.out, ← HR.out]
              simp only [lstep, HF.out, if_true]
          | false =>
            have hyx : y ≤ x := by simpa [fits] using hf
            have HF := Lib.hid hf
            clear hf
            rcases Int.lt_or_eq_of_le hyx with hyx1 | hyx1
            · clear hyx
              rcases Nat.lt_or_ge r (l + 1) with hcmp | hcmp
              · have ho := own_last (q := l + 1) HQ1.out HL.out hlt
                have HO := Lib.hid ho
                clear ho
                go_wp2_with fail
                go_region
                all_goals go_wp2_with fail
                all_goals go_roundg (i - (k + 1))
                all_goals first | omega | skip
                all_goals
                  refine ⟨k + 1, l + 1, by omega, by go_num, by omega, by omega, by omega, ?_, ?_, ?_, ?_, ?_⟩
                  · exact (hbq.setCell (p := ⟨w.heap.size, i, none⟩) (Nat.le_refl _) _).drew
                  · simp [World.setCell]; omega
                  · show l + 1 = lfold true x _
                    rw [HR1.out, ← HR.out]
                    simp only [lstep, HF.out, Bool.false_eq_true, if_false]
                    omega
                  · exact HO.out
                  · exact ownsRow_setCell_other HQ2.out (by simp [Value.ownBlock]; omega) _
              · have ho := own_last (q := r) HQ1.out HL.out hlt
                have HO := Lib.hid ho
                clear ho
                go_wp2_with fail
                go_region
                all_goals go_wp2_with fail
                all_goals go_roundg (i - (k + 1))
                all_goals first | omega | skip
                all_goals
                  refine ⟨k + 1, r, by omega, by go_num, by omega, by omega, by omega, ?_, ?_, ?_, ?_, ?_⟩
                  · exact (hbq.setCell (p := ⟨w.heap.size, i, none⟩) (Nat.le_refl _) _).drew
                  · simp [World.setCell]; omega
                  · show r = lfold true x _
                    rw [HR1.out, ← HR.out]
                    simp only [lstep, HF.out, Bool.false_eq_true, if_false]
                    omega
                  · exact HO.out
                  · exact ownsRow_setCell_other HQ2.out (by simp [Value.ownBlock]; omega) _
            · have hyx2 := hyx1.symm
              clear hyx hyx1
              subst hyx2
              rcases Nat.lt_or_ge r (l + 1) with hcmp | hcmp
              · have ho := own_last (q := l + 1) HQ1.out HL.out hlt
                have HO := Lib.hid ho
                clear ho
                go_wp2_with fail
                go_region
                all_goals go_wp2_with fail
                all_goals go_roundg (i - (k + 1))
                all_goals first | omega | skip
                all_goals
                  refine ⟨k + 1, l + 1, by omega, by go_num, by omega, by omega, by omega, ?_, ?_, ?_, ?_, ?_⟩
                  · exact (hbq.setCell (p := ⟨w.heap.size, i, none⟩) (Nat.le_refl _) _).drew
                  · simp [World.setCell]; omega
                  · show l + 1 = lfold true x _
                    rw [HR1.out, ← HR.out]
                    simp only [lstep, HF.out, Bool.false_eq_true, if_false]
                    omega
                  · exact HO.out
                  · exact ownsRow_setCell_other HQ2.out (by simp [Value.ownBlock]; omega) _
              · have ho := own_last (q := r) HQ1.out HL.out hlt
                have HO := Lib.hid ho
                clear ho
                go_wp2_with fail
                go_region
                all_goals go_wp2_with fail
                all_goals go_roundg (i - (k + 1))
                all_goals first | omega | skip
                all_goals
                  refine ⟨k + 1, r, by omega, by go_num, by omega, by omega, by omega, ?_, ?_, ?_, ?_, ?_⟩
                  · exact (hbq.setCell (p := ⟨w.heap.size, i, none⟩) (Nat.le_refl _) _).drew
                  · simp [World.setCell]; omega
                  · show r = lfold true x _
                    rw [HR1.out, ← HR.out]
                    simp only [lstep, HF.out, Bool.false_eq_true, if_false]
                    omega
                  · exact HO.out
                  · exact ownsRow_setCell_other HQ2.out (by simp [Value.ownBlock]; omega) _
        · obtain rfl : k = i := by omega
          have hr2 : r = lfold true x ((xs.take k).zip L) := by
            have := HR.out
            rwa [List.take_take, Nat.min_self, show L.take k = L from List.take_of_length_le (by rw [HL.out]; exact Nat.le_refl _)] at this
          have hplace := tops_place HI.out x r hr2
          have hN := tops_snoc HI.out x r hr2
          have HLL := Lib.hid (show (lens n (L ++ [r]))[k]? = some (r : Int) by have := lens_at_last (n := n) (L := L) r; rwa [HL.out] at this)
          clear hr2 HR hkl
          obtain ⟨i, rfl⟩ : ∃ i, i = k := ⟨_, rfl⟩
          have hci : wr.cell? ⟨w.heap.size, i, none⟩ = some (.int .i64 (r : Int)) := (own_cell HQ1.out HLL.out).1
          have z0 : (0 : Int) ≤ (i : Int) := by omega
          have z1 : (i : Int) < (n : Int) := by omega
          rcases Nat.lt_or_ge m r with hmr | hmr
          · clear hplace
            have hpp : pput true x T = T ++ [x] := by rw [hN.2, if_neg (by rw [HT.out]; omega)]
            have HPP := Lib.hid hpp
            have HN := Lib.hid hN.1
            clear hN hpp
            have hown : wr.ownsRow (w.heap.size + 1) 3 1 (.slice (some ⟨g, 0, none⟩) m cap) m (T.map (Value.int .i64)) := by
              have := HQ2.out; unfold Own at this; rwa [HT.out] at this
            have HO := Lib.hid hown
            clear hown
            go_wp2_with (at_builtin; refine wpList_app _ rfl (.tmp 66) (.tmp 68) rfl ints_ok (w.heap.size + 1) g m cap (T.map (Value.int .i64)) (by rfl) (HO.out.alloc _) _ 1 1 [.int .i64 x] (by rfl) (Src.one _ _ _) (by unfold maxLen; omega) (by omega) (by simp; omega) (m + 1) rfl _ rfl ?_; intro g2 cap2 w2 hown2 hgrow2 hat2; have ho2 : Own 3 (w.heap.size + 1) w2 (.slice (some ⟨g2, 0, none⟩) (m + 1) cap2) (T ++ [x]) := (by unfold Own; rw [List.length_append, HT.out, List.map_append]; exact hown2); have ho1 : Own 3 w.heap.size w2 (.slice (some ⟨w.heap.size, 0, none⟩) n n) (lens n (L ++ [r])) := World.ownsRow.kept (World.ownsRow.alloc HQ1.out _) hgrow2 (.inr (by simp [Value.ownBlock]; omega)); have hb2 : Below w.heap.size w w2 := (hbq.alloc (by omega) _).grown hgrow2 (by simp; omega) (fun k hk => by injection hk with hk; omega); have hg2 : w.heap.size + 1 ≤ g2 := (own_lt ho2).1; have hs2 : wr.heap.size < w2.heap.size := (by have := hgrow2.size; simp at this; omega); have hci : w2.cell? ⟨w.heap.size, i, none⟩ = some (.int .i64 (r : Int)) := (own_cell ho1 HLL.out).1; have hc2 := own_cell ho2 (show (T ++ [x])[r - 1]? = some x from get_last T x (r - 1) (by rw [HT.out]; omega)); have hc3 := hc2.1; have hc4 := hc2.2; have HO1 := Lib.hid ho1; have HO2 := Lib.hid ho2; clear ho1 ho2 hc2 hown2 hgrow2 hat2)
            have y1 : (r : Int) - 1 < (m : Int) + 1 := by omega
            have y2 : (0 : Int) ≤ (r : Int) - 1 := by omega
            go_region
            all_goals go_wp2_with fail
            all_goals go_roundg (n - (i + 1))
            all_goals first | omega | skip
            all_goals
              refine ⟨i + 1, g2, cap2, m + 1, T ++ [x], L ++ [r], by omega, by go_num, rfl, by omega, by omega, (hb2.setCell (p := ⟨g2, r - 1, none⟩) (by show w.heap.size ≤ g2; omega) _).drew, by simp [World.setCell]; omega, ?_, ?_, ?_, ?_, ?_⟩
              · show (T ++ [x]).length = m + 1; rw [List.length_append, HT.out]; rfl
              · show (L ++ [r]).length = i + 1; rw [List.length_append, HL.out]; rfl
              · show _ = piles true (xs.take (i + 1)); rw [HXT.out, piles_snoc, ← HP.out, HPP.out]
              · show TopsInv true (xs.take (i + 1)) (L ++ [r]) _; rw [HXT.out, ← HPP.out]; exact HN.out
              · exact ⟨ownsRow_setCell_other HO1.out (by simp [Value.ownBlock]; omega) _, (by have h5 := own_set (j := r - 1) (x := x) HO2.out; rw [set_last T x (r - 1) (by rw [HT.out]; omega)] at h5; rw [List.length_append, HT.out]; exact h5)⟩
          · skip
            have hpp : pput true x T = T.set (r - 1) x := by rw [hN.2, if_pos (by rw [HT.out]; omega)]
            have HPP := Lib.hid hpp
            have HN := Lib.hid hN.1
            clear hN hpp
            have ht : T[r - 1]? = some (T.getD (r - 1) 0) := by rw [List.getD_eq_getElem?_getD, List.getElem?_eq_getElem (by rw [HT.out]; omega)]; rfl
            have hft := hplace.2.2.2 (r - 1) (Nat.le_refl _) (by rw [HT.out]; omega)
            obtain ⟨hc3, hc4⟩ := own_cell HQ2.out ht
            generalize T.getD (r - 1) 0 = t at ht hft hc3
            have y1 : (r : Int) - 1 < (m : Int) := by omega
            have y2 : (0 : Int) ≤ (r : Int) - 1 := by omega
            clear hplace ht
            have hci : wr.cell? ⟨w.heap.size, i, none⟩ = some (.int .i64 (r : Int)) := (own_cell HQ1.out HLL.out).1
            have hxt : x < t := by simpa [fits] using hft
            clear hft
            go_wp2_with fail
            go_region
            all_goals go_wp2_with fail
            all_goals go_roundg (n - (i + 1))
            all_goals first | omega | skip
            all_goals
              refine ⟨i + 1, g, cap, m, T.set (r - 1) x, L ++ [r], by omega, by go_num, rfl, by omega, by omega, (hbq.setCell (p := ⟨g, r - 1, none⟩) (by show w.heap.size ≤ g; omega) _).drew, by simp [World.setCell]; omega, ?_, ?_, ?_, ?_, ?_⟩
              · show (T.set (r - 1) x).length = m; rw [List.length_set]; exact HT.out
              · show (L ++ [r]).length = i + 1; rw [List.length_append, HL.out]; rfl
              · show _ = piles true (xs.take (i + 1)); rw [HXT.out, piles_snoc, ← HP.out, HPP.out]
              · show TopsInv true (xs.take (i + 1)) (L ++ [r]) _; rw [HXT.out, ← HPP.out]; exact HN.out
              · exact ⟨ownsRow_setCell_other HQ1.out (by simp [Value.ownBlock]; omega) _, (by have h5 := own_set (j := r - 1) (x := x) HQ2.out; rw [List.length_set]; exact h5)⟩
    · obtain rfl : i = n := by omega
      go_wp2_with fail
      go_ret
      refine ⟨_, rfl, ?_, hb⟩
      have h1 := HS.out.2
      rw [HT.out] at h1
      have h2 := HP.out
      rw [List.take_of_length_le (by rw [← HX.out]; omega)] at h2
      rw [← h2]
      exact h1.mono (by omega)

end Go.Proofs.Ytbgimajgbgfomaa

/-
  What is proved here: plain laws on piles: their number times that of the piles of the opposite numbers, the piles of a sorted list, one number more; no condition.
-/
import Derived.Test.YtlcliogddepmiaaLisPlain
import Derived.Test.YtlcliogddepmiaaTopsPlain
namespace Go.Proofs.Ytlcliogddepmiaa
set_option linter.unusedVariables false

/-- Labels of numbers: those with the same one fall. -/
theorem labels (X : List Int) : ∃ L : List Nat, TopsInv false X L (piles false X) ∧ ∀ (i j : Nat) (x y : Int) (l : Nat), i < j → X[i]? = some x → X[j]? = some y → L[i]? = some l → L[j]? = some l → y ≤ x := by
  suffices hs : ∀ n (X : List Int), X.length = n → ∃ L : List Nat, TopsInv false X L (piles false X) ∧ ∀ (i j : Nat) (x y : Int) (l : Nat), i < j → X[i]? = some x → X[j]? = some y → L[i]? = some l → L[j]? = some l → y ≤ x from hs _ X rfl
  intro n
  induction n with
  | zero =>
    intro X hX
    rw [List.eq_nil_of_length_eq_zero hX]
    exact ⟨[], tops_nil false, fun i j x y l _ h => by simp at h⟩
  | succ n ih =>
    intro X hX
    have hne : X ≠ [] := by intro e; rw [e] at hX; simp at hX
    obtain ⟨r, v, rfl⟩ : ∃ r x, X = r ++ [x] := ⟨_, _, (List.dropLast_concat_getLast hne).symm⟩
    obtain ⟨L, hT, hF⟩ := ih r (by simpa using hX)
    have hs := (tops_snoc hT v (lfold false v (r.zip L)) rfl).1
    obtain ⟨p1, p2, p3, p4⟩ := tops_place hT v (lfold false v (r.zip L)) rfl
    refine ⟨L ++ [lfold false v (r.zip L)], by rw [piles_snoc]; exact hs, ?_⟩
    intro i j x y l hij hx hy hli hlj
    have hLl := hT.1
    have hjl := (List.getElem?_eq_some_iff.1 hy).1
    simp at hjl
    by_cases hj : j < r.length
    · rw [List.getElem?_append_left (by omega)] at hx hy
      rw [List.getElem?_append_left (by omega)] at hli hlj
      exact hF i j x y l hij hx hy hli hlj
    · have hjr : j = r.length := by omega
      subst hjr
      rw [List.getElem?_append_left (by omega)] at hx
      rw [List.getElem?_append_left (by omega)] at hli
      rw [List.getElem?_append_right (by omega)] at hy
      rw [List.getElem?_append_right (by omega)] at hlj
      simp at hy
      simp [hLl] at hlj
      subst hy
      obtain ⟨h1, t, ht, htx⟩ := hT.2.2.1 i x l hx hli
      have htl := (List.getElem?_eq_some_iff.1 ht).1
      have := p4 (l - 1) (by omega) htl
      rw [List.getD_eq_getElem?_getD, ht] at this
      simp [fits] at this
      omega
theorem count_labels : ∀ (m B : Nat) (L : List Nat), (∀ l ∈ L, 1 ≤ l ∧ l ≤ m) → (∀ l, L.countP (fun x => decide (x = l)) ≤ B) → L.length ≤ m * B := by
  intro m
  induction m with
  | zero =>
    intro B L h _
    match L with
    | [] => simp
    | a :: r => have := h a (by simp); omega
  | succ m ih =>
    intro B L h hB
    have h1 := ih B (L.filter fun x => !decide (x = m + 1)) (fun l hl => by
      rw [List.mem_filter] at hl
      have := h l hl.1
      have h2 := hl.2
      simp at h2
      omega) (fun l => by
      rw [List.countP_filter]
      refine Nat.le_trans (List.countP_mono_left (fun x _ hx => ?_)) (hB l)
      simp at hx ⊢
      exact hx.1)
    have h2 := hB (m + 1)
    have h3 : L.length = L.countP (fun x => decide (x = m + 1)) + (L.filter fun x => !decide (x = m + 1)).length := by
      clear ih h hB h1 h2
      induction L with
      | nil => rfl
      | cons a r ihr =>
        simp only [List.length_cons, List.countP_cons, List.filter_cons]
        by_cases e : a = m + 1 <;> simp [e] <;> omega
    rw [Nat.add_mul]
    omega
theorem piles_product (X : List Int) : X.length ≤ (piles false X).length * (piles true (opp X)).length := by
  obtain ⟨L, hT, hF⟩ := labels X
  have hLl := hT.1
  rw [← hLl]
  apply count_labels
  · intro l hl
    obtain ⟨k, hk, rfl⟩ := List.mem_iff_getElem.1 hl
    obtain ⟨h1, t, ht, _⟩ := hT.2.2.1 k _ _ (List.getElem?_eq_getElem (by omega)) (List.getElem?_eq_getElem hk)
    have := (List.getElem?_eq_some_iff.1 ht).1
    omega
  · intro l
    have hzl : (X.zip L).length = X.length := by simp; omega
    have hm1 : (X.zip L).map (·.1) = X := by rw [List.map_fst_zip (by omega)]
    have hm2 : (X.zip L).map (·.2) = L := by rw [List.map_snd_zip (by omega)]
    have hp : (X.zip L).Pairwise (fun p q => p.2 = q.2 → q.1 ≤ p.1) := by
      rw [List.pairwise_iff_getElem]
      intro i j hi hj hij e
      have hi' : i < X.length := by omega
      have hj' : j < X.length := by omega
      simp only [List.getElem_zip] at e ⊢
      exact hF i j _ _ L[i] hij (List.getElem?_eq_getElem hi') (List.getElem?_eq_getElem hj') (List.getElem?_eq_getElem (by omega)) (by rw [e]; exact List.getElem?_eq_getElem (by omega))
    have hs : (((X.zip L).filter fun p => decide (p.2 = l)).map (·.1)).Sublist X := by
      have := (List.filter_sublist (p := fun p : Int × Nat => decide (p.2 = l)) (l := X.zip L)).map (·.1)
      rwa [hm1] at this
    have hc : (((X.zip L).filter fun p => decide (p.2 = l)).map (·.1)).length = L.countP (fun x => decide (x = l)) := by
      rw [List.length_map, ← List.countP_eq_length_filter]
      conv => rhs; rw [← hm2, List.countP_map]
      rfl
    rw [← hc, ← opp_len]
    refine lis_le (weak := true) (by unfold opp; exact hs.map _) ?_
    unfold Rise opp
    rw [List.pairwise_map, List.pairwise_map]
    have h5 := List.Pairwise.and_mem.1 (hp.sublist (List.filter_sublist (p := fun p : Int × Nat => decide (p.2 = l))))
    refine h5.imp ?_
    rintro p q ⟨h6, h7, h8⟩
    rw [List.mem_filter] at h6 h7
    have h9 := h8 (by have := h6.2; have := h7.2; simp at *; omega)
    simp
    omega

theorem piles_sorted_weak {l : List Int} (h : Asc l) : piles true l = l := by
  suffices hs : ∀ n (l : List Int), l.length = n → Asc l → piles true l = l from hs _ l rfl h
  intro n
  induction n with
  | zero => intro l hl _; rw [List.eq_nil_of_length_eq_zero hl]; rfl
  | succ n ih =>
    intro l hl ha
    have hne : l ≠ [] := by intro e; rw [e] at hl; simp at hl
    obtain ⟨r, v, rfl⟩ : ∃ r x, l = r ++ [x] := ⟨_, _, (List.dropLast_concat_getLast hne).symm⟩
    unfold Asc at ha
    rw [List.pairwise_append] at ha
    rw [piles_snoc, ih r (by simpa using hl) ha.1]
    apply pput_end
    intro t ht
    have h1 : r.getD t 0 ∈ r := by rw [List.getD_eq_getElem?_getD, List.getElem?_eq_getElem ht]; exact List.getElem_mem ht
    have := ha.2.2 _ h1 v (by simp)
    simp only [fits, if_true, decide_eq_false_iff_not]
    omega
theorem piles_sorted_strict {l : List Int} (h : Asc l) : piles false l = l.foldl sq [] := by
  suffices hs : ∀ n (l : List Int), l.length = n → Asc l → piles false l = l.foldl sq [] from hs _ l rfl h
  intro n
  induction n with
  | zero => intro l hl _; rw [List.eq_nil_of_length_eq_zero hl]; rfl
  | succ n ih =>
    intro l hl ha
    have hne : l ≠ [] := by intro e; rw [e] at hl; simp at hl
    obtain ⟨r, v, rfl⟩ : ∃ r x, l = r ++ [x] := ⟨_, _, (List.dropLast_concat_getLast hne).symm⟩
    unfold Asc at ha
    rw [List.pairwise_append] at ha
    obtain ⟨f1, f2, f3⟩ := sq_facts r ha.1
    rw [piles_snoc, ih r (by simpa using hl) ha.1, List.foldl_append]
    simp only [List.foldl_cons, List.foldl_nil]
    have hle : ∀ t ∈ r.foldl sq [], t ≤ v := fun t ht => ha.2.2 t ((f2 t).1 ht) v (by simp)
    generalize r.foldl sq [] = T at f1 hle ⊢
    have hmem : ∀ t, t < T.length → T.getD t 0 ∈ T := fun t ht => by rw [List.getD_eq_getElem?_getD, List.getElem?_eq_getElem ht]; exact List.getElem_mem ht
    unfold sq
    by_cases hg : T.getLast? = some v
    · rw [if_pos hg]
      have hTl : 0 < T.length := by
        rcases Nat.eq_zero_or_pos T.length with h0 | h0
        · rw [List.eq_nil_of_length_eq_zero h0] at hg; cases hg
        · exact h0
      have hlast : T[T.length - 1]? = some v := by rw [← List.getLast?_eq_getElem?]; exact hg
      rw [pput_at false v T (T.length - 1) (by omega) ?_ ?_]
      · apply List.ext_getElem?
        intro k
        rw [List.getElem?_set]
        split
        · rename_i e; subst e; rw [if_pos (by omega), hlast]
        · rfl
      · intro t ht
        have h1 : T[t]? = some (T.getD t 0) := by rw [List.getD_eq_getElem?_getD, List.getElem?_eq_getElem (by omega), Option.getD_some]
        obtain ⟨ha1, ha2⟩ := List.getElem?_eq_some_iff.1 h1
        obtain ⟨hb1, hb2⟩ := List.getElem?_eq_some_iff.1 hlast
        have := List.pairwise_iff_getElem.1 f1 t (T.length - 1) ha1 hb1 (by omega)
        rw [ha2, hb2] at this
        generalize T.getD t 0 = z at this ⊢
        simp [fits]
        omega
      · rw [List.getD_eq_getElem?_getD, hlast]
        simp [fits]
    · rw [if_neg hg]
      apply pput_end
      intro t ht
      have h1 := hle _ (hmem t ht)
      have h2 : T.getD t 0 ≠ v := by
        intro e
        apply hg
        -- v is the greatest one, so it is the last one
        have h3 : T[t]? = some v := by rw [← e, List.getD_eq_getElem?_getD, List.getElem?_eq_getElem ht, Option.getD_some]
        rcases Nat.lt_or_ge t (T.length - 1) with h4 | h4
        · obtain ⟨hb1, hb2⟩ := List.getElem?_eq_some_iff.1 h3
          have h5 := List.pairwise_iff_getElem.1 f1 t (T.length - 1) hb1 (by omega) h4
          have h6 := hle _ (List.getElem_mem (l := T) (n := T.length - 1) (by omega))
          rw [hb2] at h5
          omega
        · rw [List.getLast?_eq_getElem?, show T.length - 1 = t by omega]
          exact h3
      generalize T.getD t 0 = z at h1 h2 ⊢
      simp [fits]
      omega
theorem piles_asc (x : List Int) : piles false (asc x) = uni x ∧ piles true (asc x) = asc x := ⟨piles_sorted_strict (asc_asc x), piles_sorted_weak (asc_asc x)⟩

/-- One number more: at one place alone a top becomes less, or there is one more. -/
theorem piles_more (x : List Int) (v : Int) : ∃ i, i ≤ (piles false x).length ∧ piles false (x ++ [v]) = (if i < (piles false x).length then (piles false x).set i v else piles false x ++ [v]) ∧ (∀ t, (piles false x)[i]? = some t → v ≤ t) := by
  rw [piles_snoc]
  generalize hT : piles false x = T
  have hr : Rise false T := by rw [← hT]; exact piles_rise _ _
  clear hT
  induction T with
  | nil => exact ⟨0, by simp, by simp [pput], by simp⟩
  | cons a r ih =>
    have hr2 : Rise false r := by unfold Rise at *; exact (List.pairwise_cons.1 hr).2
    obtain ⟨i, h1, h2, h3⟩ := ih hr2
    simp only [pput]
    by_cases hf : v ≤ a
    · refine ⟨0, by simp, ?_, ?_⟩
      · simp [fits, hf]
      · intro t ht; simp at ht; omega
    · refine ⟨i + 1, by simp; omega, ?_, ?_⟩
      · simp only [fits, Bool.false_eq_true, if_false, decide_eq_true_iff, if_neg hf, List.length_cons, h2]
        by_cases hi : i < r.length
        · rw [if_pos hi, if_pos (by omega)]; rfl
        · rw [if_neg hi, if_neg (by omega)]; rfl
      · intro t ht; exact h3 t (by simpa using ht)

end Go.Proofs.Ytlcliogddepmiaa

/-
  What is proved here: the number of piles is the length of the longest rising part (or of the longest that does not fall), and laws that follow of it; no condition.
-/
import Derived.Test.YtlcliogddepmiaaInvPlain
namespace Go.Proofs.Ytlcliogddepmiaa
set_option linter.unusedVariables false

theorem rise_snoc {weak : Bool} {s : List Int} {v : Int} : Rise weak (s ++ [v]) ↔ Rise weak s ∧ ∀ a ∈ s, fits weak v a = false := by
  unfold Rise
  rw [List.pairwise_append]
  constructor
  · rintro ⟨h1, _, h2⟩
    refine ⟨h1, fun a ha => ?_⟩
    have := h2 a ha v (by simp)
    cases weak <;> simp [fits] at * <;> omega
  · rintro ⟨h1, h2⟩
    refine ⟨h1, by simp, fun a ha b hb => ?_⟩
    simp at hb
    subst hb
    have := h2 a ha
    cases weak <;> simp [fits] at * <;> omega
/-- In a rising list only the last one counts. -/
theorem rise_last {weak : Bool} {s : List Int} {x v : Int} (h : Rise weak (s ++ [x])) (hf : fits weak v x = false) : Rise weak (s ++ [x] ++ [v]) := by
  rw [rise_snoc]
  refine ⟨h, fun a ha => ?_⟩
  rw [List.mem_append] at ha
  rcases ha with ha | ha
  · have h1 := (rise_snoc.1 h).2 a ha
    have : a ≤ x := by cases weak <;> simp [fits] at h1 <;> omega
    cases weak <;> simp [fits] at hf ⊢ <;> omega
  · simp at ha
    subst ha
    exact hf

/-- What the tops tell of all rising parts. -/
structure Lis (weak : Bool) (X T : List Int) : Prop where
  low : ∀ (s : List Int) (x : Int), (s ++ [x]).Sublist X → Rise weak (s ++ [x]) → ∃ t, T[s.length]? = some t ∧ t ≤ x
  high : ∀ (j : Nat) (t : Int), T[j]? = some t → ∃ s : List Int, s.length = j ∧ (s ++ [t]).Sublist X ∧ Rise weak (s ++ [t])

theorem sublist_snoc {s X : List Int} {x v : Int} (h : (s ++ [x]).Sublist (X ++ [v])) : (s ++ [x]).Sublist X ∨ (x = v ∧ s.Sublist X) := by
  obtain ⟨l1, l2, e, h1, h2⟩ := List.sublist_append_iff.1 h
  rcases Nat.eq_zero_or_pos l2.length with h0 | h0
  · have : l2 = [] := List.eq_nil_of_length_eq_zero h0
    subst this
    left
    rw [e]
    simpa using h1
  · right
    have hl : l2.length ≤ 1 := h2.length_le
    match l2, h0, hl, h2 with
    | [b], _, _, h2 =>
      have hb : b = v := by
        have := h2.subset (show b ∈ [b] by simp)
        simpa using this
      subst hb
      have := List.append_inj' e rfl
      obtain ⟨rfl, e2⟩ := this
      simp at e2
      exact ⟨e2, h1⟩

theorem lis_step {weak : Bool} {X T : List Int} (h : Lis weak X T) (hr : Rise weak T) (v : Int) : Lis weak (X ++ [v]) (pput weak v T) := by
  -- the place of v
  have hplace : ∃ i, i ≤ T.length ∧ (∀ t, t < i → fits weak v (T.getD t 0) = false) ∧ (∀ t, i ≤ t → t < T.length → fits weak v (T.getD t 0) = true) ∧ pput weak v T = (if i < T.length then T.set i v else T ++ [v]) := by
    suffices hs : ∀ k, k ≤ T.length → (∃ i, i < k ∧ (∀ t, t < i → fits weak v (T.getD t 0) = false) ∧ fits weak v (T.getD i 0) = true) ∨ ∀ t, t < k → fits weak v (T.getD t 0) = false by
      rcases hs T.length (Nat.le_refl _) with ⟨i, hi, h1, h2⟩ | h1
      · refine ⟨i, by omega, h1, fun t ht htl => fits_mono hr ht htl h2, ?_⟩
        rw [if_pos hi, pput_at weak v T i hi h1 h2]
      · refine ⟨T.length, Nat.le_refl _, h1, fun t h2 h3 => by omega, ?_⟩
        rw [if_neg (by omega), pput_end weak v T h1]
    intro k
    induction k with
    | zero => intro _; right; intro t ht; omega
    | succ k ih =>
      intro hk
      rcases ih (by omega) with ⟨i, hi, h1, h2⟩ | h1
      · exact .inl ⟨i, by omega, h1, h2⟩
      · cases hf : fits weak v (T.getD k 0) with
        | true => exact .inl ⟨k, by omega, h1, hf⟩
        | false =>
          right
          intro t ht
          by_cases e : t = k
          · subst e; exact hf
          · exact h1 t (by omega)
  obtain ⟨i, hil, hlo, hhi, hpp⟩ := hplace
  have hget : ∀ t, t < T.length → T[t]? = some (T.getD t 0) := fun t ht => by rw [List.getD_eq_getElem?_getD, List.getElem?_eq_getElem ht, Option.getD_some]
  have hnew : (pput weak v T)[i]? = some v := by
    rw [hpp]
    split
    · rename_i hlt; simp [hlt]
    · rename_i hge
      rw [List.getElem?_append_right (by omega), show i - T.length = 0 by omega]
      rfl
  have hold : ∀ (j : Nat) (t : Int), T[j]? = some t → j ≠ i → (pput weak v T)[j]? = some t := by
    intro j t hj hne
    have hjl := (List.getElem?_eq_some_iff.1 hj).1
    rw [hpp]
    split
    · rw [List.getElem?_set_ne (by omega)]; exact hj
    · rw [List.getElem?_append_left hjl]; exact hj
  have hback : ∀ (j : Nat) (t : Int), (pput weak v T)[j]? = some t → (j = i ∧ t = v) ∨ T[j]? = some t := by
    intro j t hj
    by_cases e : j = i
    · subst e
      rw [hnew] at hj
      injection hj with hj
      exact .inl ⟨rfl, hj.symm⟩
    · right
      rw [hpp] at hj
      split at hj
      · rwa [List.getElem?_set_ne (by omega)] at hj
      · have hjl := (List.getElem?_eq_some_iff.1 hj).1
        simp at hjl
        rw [List.getElem?_append_left (by omega)] at hj
        exact hj
  have hle : ∀ (j : Nat) (t : Int), T[j]? = some t → ∃ t', (pput weak v T)[j]? = some t' ∧ t' ≤ t := by
    intro j t hj
    by_cases e : j = i
    · subst e
      refine ⟨v, hnew, ?_⟩
      have hjl := (List.getElem?_eq_some_iff.1 hj).1
      have := hhi j (Nat.le_refl _) hjl
      rw [List.getD_eq_getElem?_getD, hj] at this
      simp at this
      cases weak <;> simp [fits] at this <;> omega
    · exact ⟨t, hold j t hj e, Int.le_refl _⟩
  constructor
  · intro s x hsub hrise
    rcases sublist_snoc hsub with h1 | ⟨rfl, h1⟩
    · obtain ⟨t, ht, htx⟩ := h.low s x h1 hrise
      obtain ⟨t', ht', hle'⟩ := hle _ t ht
      exact ⟨t', ht', by omega⟩
    · -- s is a rising part on whose end x may not lie: it is no longer than i
      have hsi : s.length ≤ i := by
        rcases Nat.eq_zero_or_pos s.length with h0 | h0
        · omega
        · have hne : s ≠ [] := by intro e; rw [e] at h0; simp at h0
          obtain ⟨r, y, rfl⟩ : ∃ r y, s = r ++ [y] := ⟨_, _, (List.dropLast_concat_getLast hne).symm⟩
          obtain ⟨hr1, hr2⟩ := rise_snoc.1 hrise
          obtain ⟨t, ht, hty⟩ := h.low r y h1 hr1
          have hfy := hr2 y (by simp)
          have hft : fits weak x t = false := by cases weak <;> simp [fits] at hfy ⊢ <;> omega
          rcases Nat.lt_or_ge r.length i with h2 | h2
          · simp; omega
          · have hjl := (List.getElem?_eq_some_iff.1 ht).1
            have := hhi r.length h2 hjl
            rw [List.getD_eq_getElem?_getD, ht] at this
            simp at this
            rw [hft] at this
            cases this
      rcases Nat.lt_or_ge s.length i with h2 | h2
      · have hlt : s.length < T.length := by omega
        have hf := hlo s.length h2
        refine ⟨T.getD s.length 0, hold _ _ (hget _ hlt) (by omega), ?_⟩
        generalize T.getD s.length 0 = t at hf ⊢
        cases weak <;> simp [fits] at hf <;> omega
      · have : s.length = i := by omega
        rw [this]
        exact ⟨x, hnew, Int.le_refl _⟩
  · intro j t hj
    rcases hback j t hj with ⟨rfl, rfl⟩ | h1
    · rcases Nat.eq_zero_or_pos j with h0 | h0
      · subst h0
        exact ⟨[], rfl, by simp, by simp [Rise]⟩
      · have hf := hlo (j - 1) (by omega)
        obtain ⟨s, hs1, hs2, hs3⟩ := h.high (j - 1) (T.getD (j - 1) 0) (hget _ (by omega))
        refine ⟨s ++ [T.getD (j - 1) 0], by simp [hs1]; omega, ?_, rise_last hs3 hf⟩
        exact hs2.append (List.Sublist.refl _)
    · obtain ⟨s, hs1, hs2, hs3⟩ := h.high j t h1
      exact ⟨s, hs1, hs2.trans (List.sublist_append_left _ _), hs3⟩

theorem lis (weak : Bool) (X : List Int) : Lis weak X (piles weak X) := by
  suffices hs : ∀ n (X : List Int), X.length = n → Lis weak X (piles weak X) from hs _ X rfl
  intro n
  induction n with
  | zero =>
    intro X hX
    rw [List.eq_nil_of_length_eq_zero hX]
    exact ⟨fun s x h => by simp at h, fun j t h => by simp [piles] at h⟩
  | succ n ih =>
    intro X hX
    have hne : X ≠ [] := by intro e; rw [e] at hX; simp at hX
    obtain ⟨r, x, rfl⟩ : ∃ r x, X = r ++ [x] := ⟨_, _, (List.dropLast_concat_getLast hne).symm⟩
    rw [piles_snoc]
    exact lis_step (ih r (by simpa using hX)) (piles_rise _ _) x

/-- No rising part is longer than the number of piles. -/
theorem lis_le {weak : Bool} {s X : List Int} (h : s.Sublist X) (hr : Rise weak s) : s.length ≤ (piles weak X).length := by
  rcases Nat.eq_zero_or_pos s.length with h0 | h0
  · omega
  · have hne : s ≠ [] := by intro e; rw [e] at h0; simp at h0
    obtain ⟨r, y, rfl⟩ : ∃ r y, s = r ++ [y] := ⟨_, _, (List.dropLast_concat_getLast hne).symm⟩
    obtain ⟨t, ht, _⟩ := (lis weak X).low r y h hr
    have := (List.getElem?_eq_some_iff.1 ht).1
    simp
    omega
/-- Some rising part is as long. -/
theorem lis_ex (weak : Bool) (X : List Int) : ∃ s : List Int, s.Sublist X ∧ Rise weak s ∧ s.length = (piles weak X).length := by
  rcases Nat.eq_zero_or_pos (piles weak X).length with h0 | h0
  · exact ⟨[], by simp, by simp [Rise], by simp [h0]⟩
  · obtain ⟨s, h1, h2, h3⟩ := (lis weak X).high ((piles weak X).length - 1) _ (List.getElem?_eq_getElem (by omega))
    exact ⟨_, h2, h3, by simp [h1]; omega⟩

theorem piles_weak_le (X : List Int) : (piles false X).length ≤ (piles true X).length := by
  obtain ⟨s, h1, h2, h3⟩ := lis_ex false X
  rw [← h3]
  refine lis_le h1 ?_
  unfold Rise at h2 ⊢
  exact h2.imp (fun h => by simp at h ⊢; omega)
theorem piles_pos (weak : Bool) (X : List Int) : 0 < (piles weak X).length ↔ 0 < X.length := by
  constructor
  · intro h
    have := piles_len weak X
    omega
  · intro h
    match X, h with
    | a :: r, _ =>
      have := lis_le (weak := weak) (s := [a]) (X := a :: r) (by simp) (by simp [Rise])
      exact Nat.lt_of_lt_of_le (Nat.zero_lt_one) this
theorem rise_opp_rev {weak : Bool} {s : List Int} (h : Rise weak s) : Rise weak (opp s.reverse) := by
  unfold Rise opp at *
  rw [List.pairwise_map, List.pairwise_reverse]
  refine h.imp ?_
  intro a b hab
  cases weak <;> simp at hab ⊢ <;> omega
theorem opp_rev_twice (x : List Int) : opp (opp x.reverse).reverse = x := by
  unfold opp
  rw [← List.map_reverse, List.reverse_reverse, List.map_map]
  conv => rhs; rw [← List.map_id x]
  apply List.map_congr_left
  intro a _
  simp
  omega
theorem piles_mirror (weak : Bool) (x : List Int) : (piles weak (opp x.reverse)).length = (piles weak x).length := by
  have hle : ∀ y : List Int, (piles weak y).length ≤ (piles weak (opp y.reverse)).length := by
    intro y
    obtain ⟨s, h1, h2, h3⟩ := lis_ex weak y
    have h4 := lis_le (weak := weak) (s := opp s.reverse) (X := opp y.reverse) (by unfold opp; exact (h1.reverse).map _) (rise_opp_rev h2)
    rw [opp_len, List.length_reverse] at h4
    omega
  apply Nat.le_antisymm
  · have := hle (opp x.reverse)
    rwa [opp_rev_twice] at this
  · exact hle x
theorem piles_joined (weak : Bool) (x y : List Int) : (piles weak x).length ≤ (piles weak (x ++ y)).length ∧ (piles weak y).length ≤ (piles weak (x ++ y)).length ∧ (piles weak (x ++ y)).length ≤ (piles weak x).length + (piles weak y).length := by
  refine ⟨?_, ?_, ?_⟩
  · obtain ⟨s, h1, h2, h3⟩ := lis_ex weak x
    rw [← h3]
    exact lis_le (h1.trans (List.sublist_append_left _ _)) h2
  · obtain ⟨s, h1, h2, h3⟩ := lis_ex weak y
    rw [← h3]
    exact lis_le (h1.trans (List.sublist_append_right _ _)) h2
  · obtain ⟨s, h1, h2, h3⟩ := lis_ex weak (x ++ y)
    obtain ⟨l1, l2, rfl, h4, h5⟩ := List.sublist_append_iff.1 h1
    unfold Rise at h2
    rw [List.pairwise_append] at h2
    have h6 := lis_le (weak := weak) h4 h2.1
    have h7 := lis_le (weak := weak) h5 h2.2.1
    rw [← h3, List.length_append]
    omega
theorem piles_all {x : List Int} : (piles true x).length = x.length ↔ Asc x := by
  constructor
  · intro h
    obtain ⟨s, h1, h2, h3⟩ := lis_ex true x
    rw [h] at h3
    have := h1.eq_of_length h3
    subst this
    exact rise_asc h2
  · intro h
    apply Nat.le_antisymm (piles_len _ _)
    refine lis_le (List.Sublist.refl _) ?_
    unfold Rise
    exact h.imp (fun h => by simpa using h)

end Go.Proofs.Ytlcliogddepmiaa

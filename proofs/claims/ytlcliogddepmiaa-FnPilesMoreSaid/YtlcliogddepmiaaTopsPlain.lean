/-
  What is proved here: plain facts on the longest rising parts: the length that the reference reckons is one more than the number of tops on which the number may not lie; no condition.
-/
import Derived.Test.YtlcliogddepmiaaPilesPlain
namespace Go.Proofs.Ytlcliogddepmiaa
set_option linter.unusedVariables false

/-- One step of the inner loop: the number x with the length l, against v. -/
def lstep (weak : Bool) (v : Int) (r : Nat) (p : Int × Nat) : Nat := if fits weak v p.1 then r else max r (p.2 + 1)
def lfold (weak : Bool) (v : Int) (ps : List (Int × Nat)) : Nat := ps.foldl (lstep weak v) 1

theorem lfold_snoc (weak : Bool) (v : Int) (ps : List (Int × Nat)) (p : Int × Nat) : lfold weak v (ps ++ [p]) = lstep weak v (lfold weak v ps) p := by simp [lfold, List.foldl_append]

theorem lfold_bounds (weak : Bool) (v : Int) (ps : List (Int × Nat)) :
    (∀ p ∈ ps, fits weak v p.1 = false → p.2 + 1 ≤ lfold weak v ps) ∧ 1 ≤ lfold weak v ps ∧ (lfold weak v ps = 1 ∨ ∃ p ∈ ps, fits weak v p.1 = false ∧ lfold weak v ps = p.2 + 1) := by
  suffices h : ∀ (l : List (Int × Nat)) (r : Nat), 1 ≤ r → (∀ p ∈ l, fits weak v p.1 = false → p.2 + 1 ≤ l.foldl (lstep weak v) r) ∧ r ≤ l.foldl (lstep weak v) r ∧
      (l.foldl (lstep weak v) r = r ∨ ∃ p ∈ l, fits weak v p.1 = false ∧ l.foldl (lstep weak v) r = p.2 + 1) from h ps 1 (Nat.le_refl _)
  intro l
  induction l with
  | nil => intro r hr; simp
  | cons p t ih =>
    intro r hr
    simp only [List.foldl_cons]
    have hs : r ≤ lstep weak v r p := by unfold lstep; split <;> omega
    obtain ⟨h1, h2, h3⟩ := ih (lstep weak v r p) (by omega)
    refine ⟨?_, by omega, ?_⟩
    · intro q hq hf
      rw [List.mem_cons] at hq
      rcases hq with rfl | hq
      · have : q.2 + 1 ≤ lstep weak v r q := by unfold lstep; rw [hf]; simp; omega
        omega
      · exact h1 q hq hf
    · rcases h3 with h3 | ⟨q, hq, hf, h3⟩
      · cases hf : fits weak v p.1 with
        | true =>
          left
          have : lstep weak v r p = r := by unfold lstep; rw [hf]; rfl
          rw [h3, this]
        | false =>
          have : lstep weak v r p = max r (p.2 + 1) := by unfold lstep; rw [hf]; rfl
          rcases Nat.lt_or_ge r (p.2 + 1) with hlt | hge
          · exact .inr ⟨p, by simp, hf, by rw [h3, this]; omega⟩
          · exact .inl (by rw [h3, this]; omega)
      · exact .inr ⟨q, by simp [hq], hf, h3⟩

/-- The lengths so far, and the tops: each number stands on the pile of its length, and each top is a number of that length. -/
def TopsInv (weak : Bool) (X : List Int) (L : List Nat) (T : List Int) : Prop :=
  L.length = X.length ∧ Rise weak T ∧
  (∀ (k : Nat) (x : Int) (l : Nat), X[k]? = some x → L[k]? = some l → 1 ≤ l ∧ ∃ t, T[l - 1]? = some t ∧ t ≤ x) ∧
  (∀ (j : Nat) (t : Int), T[j]? = some t → ∃ k : Nat, X[k]? = some t ∧ L[k]? = some (j + 1))

theorem fits_le {weak : Bool} {v t x : Int} (h : t ≤ x) (hf : fits weak v x = false) : fits weak v t = false := by
  cases weak <;> simp [fits] at * <;> omega

/-- The length reckoned for v: its place among the tops. -/
theorem tops_place {weak : Bool} {X : List Int} {L : List Nat} {T : List Int} (h : TopsInv weak X L T) (v : Int) (r : Nat) (hr : r = lfold weak v (X.zip L)) :
    1 ≤ r ∧ r ≤ T.length + 1 ∧ (∀ t, t < r - 1 → fits weak v (T.getD t 0) = false) ∧ (∀ t, r - 1 ≤ t → t < T.length → fits weak v (T.getD t 0) = true) := by
  obtain ⟨hl, hrise, hdown, hup⟩ := h
  obtain ⟨b1, b2, b3⟩ := lfold_bounds weak v (X.zip L)
  rw [← hr] at b1 b2 b3
  have hget : ∀ t, t < T.length → T[t]? = some (T.getD t 0) := fun t ht => by rw [List.getD_eq_getElem?_getD, List.getElem?_eq_getElem ht]; rfl
  have key : r = 1 ∨ (r - 2 < T.length ∧ 2 ≤ r ∧ fits weak v (T.getD (r - 2) 0) = false) := by
    rcases b3 with h1 | ⟨p, hp, hf, h1⟩
    · exact .inl h1
    · right
      obtain ⟨k, hk, hpk⟩ := List.mem_iff_getElem.1 hp
      have hkX : k < X.length := by simp at hk; omega
      have hkL : k < L.length := by simp at hk; omega
      have hpe : p = (X[k], L[k]) := by rw [← hpk]; simp
      obtain ⟨hl1, t, ht, htx⟩ := hdown k X[k] L[k] (List.getElem?_eq_getElem hkX) (List.getElem?_eq_getElem hkL)
      rw [hpe] at h1 hf
      simp at h1 hf
      have htl : L[k] - 1 < T.length := (List.getElem?_eq_some_iff.1 ht).1
      have e : r - 2 = L[k] - 1 := by omega
      refine ⟨by omega, by omega, ?_⟩
      rw [e, List.getD_eq_getElem?_getD, ht]
      exact fits_le htx hf
  refine ⟨b2, by rcases key with h | h <;> omega, ?_, ?_⟩
  · intro t ht
    rcases key with h | ⟨h1, h2, h3⟩
    · omega
    · cases hf : fits weak v (T.getD t 0) with
      | false => rfl
      | true =>
        have := fits_mono hrise (a := t) (b := r - 2) (by omega) h1 hf
        rw [h3] at this
        cases this
  · intro t ht htT
    cases hf : fits weak v (T.getD t 0) with
    | true => rfl
    | false =>
      obtain ⟨k, hkx, hkl⟩ := hup t (T.getD t 0) (hget t htT)
      have hkX : k < X.length := (List.getElem?_eq_some_iff.1 hkx).1
      have hkL : k < L.length := (List.getElem?_eq_some_iff.1 hkl).1
      have hp : (T.getD t 0, t + 1) ∈ X.zip L := by
        refine List.mem_iff_getElem.2 ⟨k, by simp; omega, ?_⟩
        simp only [List.getElem_zip]
        rw [(List.getElem?_eq_some_iff.1 hkx).2, (List.getElem?_eq_some_iff.1 hkl).2]
      have := b1 _ hp hf
      simp at this
      omega

theorem tops_snoc {weak : Bool} {X : List Int} {L : List Nat} {T : List Int} (h : TopsInv weak X L T) (v : Int) (r : Nat) (hr : r = lfold weak v (X.zip L)) :
    TopsInv weak (X ++ [v]) (L ++ [r]) (pput weak v T) ∧ pput weak v T = (if r - 1 < T.length then T.set (r - 1) v else T ++ [v]) := by
  obtain ⟨p1, p2, p3, p4⟩ := tops_place h v r hr
  obtain ⟨hl, hrise, hdown, hup⟩ := h
  have hpp : pput weak v T = (if r - 1 < T.length then T.set (r - 1) v else T ++ [v]) := by
    split
    · rename_i hlt
      exact pput_at weak v T (r - 1) hlt p3 (p4 _ (Nat.le_refl _) hlt)
    · rename_i hge
      exact pput_end weak v T (fun t ht => p3 t (by omega))
  have hat : ∀ (j : Nat) (t : Int), T[j]? = some t → j ≠ r - 1 → (pput weak v T)[j]? = some t := by
    intro j t hj hne
    have hjl := (List.getElem?_eq_some_iff.1 hj).1
    rw [hpp]
    split
    · rw [List.getElem?_set_ne (by omega)]; exact hj
    · rw [List.getElem?_append_left hjl]; exact hj
  have hnew : (pput weak v T)[r - 1]? = some v := by
    rw [hpp]
    split
    · rename_i hlt; simp [hlt]
    · rename_i hge
      rw [List.getElem?_append_right (by omega), show r - 1 - T.length = 0 by omega]
      rfl
  refine ⟨⟨by simp [hl], pput_rise hrise, ?_, ?_⟩, hpp⟩
  · intro k x l hx hlk
    by_cases hk : k < X.length
    · rw [List.getElem?_append_left hk] at hx
      rw [List.getElem?_append_left (by omega)] at hlk
      obtain ⟨h1, t, ht, htx⟩ := hdown k x l hx hlk
      refine ⟨h1, ?_⟩
      by_cases he : l - 1 = r - 1
      · refine ⟨v, by rw [he]; exact hnew, ?_⟩
        have htl := (List.getElem?_eq_some_iff.1 ht).1
        have hf := p4 (l - 1) (by omega) htl
        rw [List.getD_eq_getElem?_getD, ht] at hf
        simp at hf
        cases weak <;> simp [fits] at hf <;> omega
      · exact ⟨t, hat _ t ht he, htx⟩
    · have hk2 : k = X.length := by
        have := (List.getElem?_eq_some_iff.1 hx).1
        simp at this
        omega
      subst hk2
      rw [List.getElem?_append_right (by omega)] at hx
      rw [List.getElem?_append_right (by omega)] at hlk
      simp at hx
      simp [hl] at hlk
      subst hx
      subst hlk
      exact ⟨p1, v, hnew, Int.le_refl _⟩
  · intro j t hj
    by_cases he : j = r - 1
    · subst he
      rw [hnew] at hj
      injection hj with hj
      subst hj
      refine ⟨X.length, by simp, ?_⟩
      rw [List.getElem?_append_right (by omega)]
      simp [hl]
      omega
    · have hj' : T[j]? = some t := by
        rw [hpp] at hj
        split at hj
        · rwa [List.getElem?_set_ne (by omega)] at hj
        · rename_i hge
          have hjl := (List.getElem?_eq_some_iff.1 hj).1
          simp at hjl
          rw [List.getElem?_append_left (by omega)] at hj
          exact hj
      obtain ⟨k, hkx, hkl⟩ := hup j t hj'
      have hkX : k < X.length := (List.getElem?_eq_some_iff.1 hkx).1
      exact ⟨k, by rw [List.getElem?_append_left hkX]; exact hkx, by rw [List.getElem?_append_left (by omega)]; exact hkl⟩

theorem tops_nil (weak : Bool) : TopsInv weak [] [] [] := ⟨rfl, by simp [Rise], fun k x l hx => by simp at hx, fun j t hj => by simp at hj⟩

end Go.Proofs.Ytlcliogddepmiaa

/-
  What is proved here: plain facts on the stable sort's parts over arrays: insertion keeps the order of equal ones; exchanging and rotating ranges; merging by a symmetric cut; no condition.
-/
import Derived.Sort.LotA
import Derived.Sort.WalkA
namespace Go.Proofs.Ytiioojnoggcnmaa
open Go.Sort
set_option linter.unusedVariables false
set_option linter.unusedSectionVars false

section
variable {α : Type} [Inhabited α] {lt : α → α → Bool} {T : α → α → Prop}

/-- The range from a to b is in strict order. -/
def SortT (T : α → α → Prop) (a b : Nat) (d : Array α) : Prop := ∀ i j, a ≤ i → i < j → j < b → T d[i]! d[j]!
/-- The comparison tells how x and y, of which x stands ahead, are ordered. -/
def Dec (lt : α → α → Bool) (T : α → α → Prop) (x y : α) : Prop := (lt y x = true → T y x) ∧ (lt y x = false → T x y)

theorem insInner_T (htr : ∀ x y z, T x y → T y z → T x z) (a i : Nat) : ∀ (j : Nat) (d : Array α), a ≤ j → j ≤ i → i < d.size →
    (∀ p q, a ≤ p → p < q → q ≤ i → p ≠ j → q ≠ j → T d[p]! d[q]!) → (∀ q, j < q → q ≤ i → T d[j]! d[q]!) → (∀ p, a ≤ p → p < j → Dec lt T d[p]! d[j]!) →
    SortT T a (i + 1) (insInner lt a j d)
  | 0, d, ha, hj, hi, h1, h2, h3 => by
    unfold insInner
    intro p q hp hpq hq
    by_cases e : p = 0
    · subst e; exact h2 q hpq (by omega)
    · exact h1 p q hp hpq (by omega) e (by omega)
  | j + 1, d, ha, hj, hi, h1, h2, h3 => by
    unfold insInner
    by_cases hc : (j + 1 > a && lt d[j + 1]! d[j]!) = true
    · rw [if_pos hc]
      simp only [Bool.and_eq_true, decide_eq_true_eq] at hc
      obtain ⟨hja, hlt⟩ := hc
      have g : ∀ k, (swp d (j + 1) j)[k]! = if k = j then d[j + 1]! else if k = j + 1 then d[j]! else d[k]! := swp_get d (by omega) (by omega)
      have gj : (swp d (j + 1) j)[j]! = d[j + 1]! := by rw [g, if_pos rfl]
      have gj1 : (swp d (j + 1) j)[j + 1]! = d[j]! := by rw [g, if_neg (by omega), if_pos rfl]
      have go : ∀ k, k ≠ j → k ≠ j + 1 → (swp d (j + 1) j)[k]! = d[k]! := fun k e1 e2 => by rw [g, if_neg e1, if_neg e2]
      refine insInner_T htr a i j _ (by omega) (by omega) (by rw [size_swp]; exact hi) ?_ ?_ ?_
      · intro p q hp hpq hq hpj hqj
        by_cases e1 : p = j + 1
        · subst e1
          rw [gj1, go q hqj (by omega)]
          exact h1 j q (by omega) (by omega) hq (by omega) (by omega)
        · by_cases e2 : q = j + 1
          · subst e2
            rw [gj1, go p hpj (by omega)]
            exact h1 p j hp (by omega) (by omega) (by omega) (by omega)
          · rw [go p hpj e1, go q hqj e2]
            exact h1 p q hp hpq hq e1 e2
      · intro q hq hqi
        rw [gj]
        by_cases e2 : q = j + 1
        · subst e2
          rw [gj1]
          exact (h3 j (by omega) (by omega)).1 hlt
        · rw [go q (by omega) e2]
          exact h2 q (by omega) hqi
      · intro p hp hpj
        rw [gj, go p (by omega) (by omega)]
        exact h3 p hp (by omega)
    · rw [if_neg hc]
      intro p q hp hpq hq
      have hback : ∀ p, a ≤ p → p < j + 1 → T d[p]! d[j + 1]! := by
        intro p hp hpj
        have hl : lt d[j + 1]! d[j]! = false := by
          cases hl : lt d[j + 1]! d[j]! with
          | false => rfl
          | true => exact absurd (by simp [hl]; omega) hc
        have hj1 := (h3 j (by omega) (by omega)).2 hl
        by_cases e : p = j
        · subst e; exact hj1
        · exact htr _ _ _ (h1 p j hp (by omega) (by omega) (by omega) (by omega)) hj1
      by_cases e1 : p = j + 1
      · subst e1; exact h2 q hpq (by omega)
      · by_cases e2 : q = j + 1
        · subst e2; exact hback p hp hpq
        · exact h1 p q hp hpq (by omega) e1 e2

theorem insInner_perm (a i : Nat) : ∀ (j : Nat) (d : Array α), a ≤ j → j ≤ i → i < d.size → PermIn a (i + 1) d (insInner lt a j d)
  | 0, d, _, _, _ => by unfold insInner; exact permIn_refl d a (i + 1)
  | j + 1, d, ha, hj, hi => by
    unfold insInner
    by_cases hc : (j + 1 > a && lt d[j + 1]! d[j]!) = true
    · rw [if_pos hc]
      simp only [Bool.and_eq_true, decide_eq_true_eq] at hc
      exact permIn_trans _ _ _ _ _ (swp_permIn d a (i + 1) (j + 1) j (by omega) (by omega) (by omega) (by omega) (by omega)) (insInner_perm a i j _ (by omega) (by omega) (by rw [size_swp]; exact hi))
    · rw [if_neg hc]; exact permIn_refl d a (i + 1)

theorem insOuter_T (htr : ∀ x y z, T x y → T y z → T x z) (a b : Nat) (d0 : Array α) (hb : b ≤ d0.size) (hdec : ∀ i j, a ≤ i → i < j → j < b → Dec lt T d0[i]! d0[j]!) :
    ∀ (n i : Nat) (d : Array α), b - i = n → a < i → i ≤ b → PermIn a i d0 d → SortT T a i d → PermIn a b d0 (insOuter lt a b i d) ∧ SortT T a b (insOuter lt a b i d)
  | 0, i, d, hn, hai, hib, hp, hs => by
    rw [insOuter, if_neg (by omega)]
    obtain rfl : i = b := by omega
    exact ⟨hp, hs⟩
  | n + 1, i, d, hn, hai, hib, hp, hs => by
    rw [insOuter, if_pos (by omega)]
    have hsz := hp.1
    have hi : i < d.size := by omega
    have e : d[i]! = d0[i]! := hp.2.1 i (.inr (Nat.le_refl _))
    refine insOuter_T htr a b d0 hb hdec n (i + 1) _ (by omega) (by omega) (by omega) ?_ ?_
    · exact permIn_trans _ _ _ _ _ (permIn_mono _ _ _ _ _ _ (Nat.le_refl _) (by omega) (by omega) hp) (insInner_perm a i i d (by omega) (Nat.le_refl _) hi)
    · refine insInner_T htr a i i d (by omega) (Nat.le_refl _) hi (fun p q h1 h2 h3 h4 h5 => hs p q h1 h2 (by omega)) (fun q h1 h2 => by omega) ?_
      intro p h1 h2
      rw [e]
      exact permIn_all d0 d a i (fun x => Dec lt T x d0[i]!) (by omega) hp (fun k hk1 hk2 => hdec k i hk1 hk2 (by omega)) p h1 h2

theorem insertion_T (htr : ∀ x y z, T x y → T y z → T x z) (a b : Nat) (d : Array α) (hab : a ≤ b) (hb : b ≤ d.size) (hdec : ∀ i j, a ≤ i → i < j → j < b → Dec lt T d[i]! d[j]!) :
    PermIn a b d (insertionSort lt d a b) ∧ SortT T a b (insertionSort lt d a b) := by
  unfold insertionSort
  by_cases h : a < b
  · exact insOuter_T htr a b d hb hdec _ (a + 1) d rfl (by omega) (by omega) (permIn_refl _ _ _) (fun i j h1 h2 h3 => by omega)
  · rw [insOuter, if_neg (by omega)]
    exact ⟨permIn_refl _ _ _, fun i j h1 h2 h3 => by omega⟩

/-- Two ranges of n elements are exchanged. -/
def Swapped (a b n : Nat) (d d' : Array α) : Prop := d'.size = d.size ∧ ∀ t, d'[t]! = if a ≤ t ∧ t < a + n then d[t - a + b]! else if b ≤ t ∧ t < b + n then d[t - b + a]! else d[t]!
theorem swapped_zero (a b : Nat) (d : Array α) : Swapped a b 0 d d := ⟨rfl, fun t => by rw [if_neg (by omega), if_neg (by omega)]⟩
theorem swapped_step {a b i : Nat} {d d' : Array α} (h : Swapped a b i d d') (hab : a + i < b) (hb : b + i < d.size) : Swapped a b (i + 1) d (swp d' (a + i) (b + i)) := by
  obtain ⟨h1, h2⟩ := h
  refine ⟨by rw [size_swp, h1], fun t => ?_⟩
  rw [swp_get d' (by omega) (by omega), h2, h2, h2]
  by_cases e1 : t = b + i
  · subst e1
    rw [if_pos rfl, if_neg (by omega), if_neg (by omega), if_neg (by omega), if_pos (by omega)]
    congr 1; omega
  · rw [if_neg e1]
    by_cases e2 : t = a + i
    · subst e2
      rw [if_pos rfl, if_neg (by omega), if_neg (by omega), if_pos (by omega)]
      congr 1; omega
    · rw [if_neg e2]
      by_cases e3 : a ≤ t ∧ t < a + i
      · rw [if_pos e3, if_pos (by omega)]
      · rw [if_neg e3]
        by_cases e4 : b ≤ t ∧ t < b + i
        · rw [if_pos e4, if_neg (by omega), if_pos (by omega)]
        · rw [if_neg e4, if_neg (by omega), if_neg (by omega)]

/-- The element at t, once the ranges from a to m and from m to b have changed places. -/
def rotv (d : Array α) (a m b t : Nat) : α := if a ≤ t ∧ t < a + (b - m) then d[t + (m - a)]! else if a + (b - m) ≤ t ∧ t < b then d[t - (b - m)]! else d[t]!
def Rotated (a m b : Nat) (d d' : Array α) : Prop := d'.size = d.size ∧ ∀ t, d'[t]! = rotv d a m b t

theorem rot_big {d d' : Array α} {m i j : Nat} (him : i ≤ m) (hij : j < i) (h : Swapped (m - i) m j d d') (t : Nat) : rotv d' (m - (i - j)) m (m + j) t = rotv d (m - i) m (m + j) t := by
  unfold rotv
  by_cases e1 : m - i ≤ t ∧ t < m - i + j
  · rw [if_neg (by omega), if_neg (by omega), if_pos (by omega), h.2, if_pos (by omega)]
    congr 1; omega
  · by_cases e2 : m - (i - j) ≤ t ∧ t < m - (i - j) + j
    · rw [if_pos (by omega), if_neg (by omega), if_pos (by omega), h.2]
      by_cases e3 : m - i ≤ t + (m - (m - (i - j))) ∧ t + (m - (m - (i - j))) < m - i + j
      · omega
      · rw [if_neg e3, if_pos (by omega)]
        congr 1; omega
    · by_cases e3 : m - (i - j) + j ≤ t ∧ t < m + j
      · rw [if_neg (by omega), if_pos (by omega), if_neg (by omega), if_pos (by omega), h.2, if_neg (by omega), if_neg (by omega)]
      · rw [if_neg (by omega), if_neg (by omega), if_neg (by omega), if_neg (by omega), h.2, if_neg (by omega), if_neg (by omega)]
theorem rot_small {d d' : Array α} {m i j : Nat} (him : i ≤ m) (hij : i < j) (h : Swapped (m - i) (m + j - i) i d d') (t : Nat) : rotv d' (m - i) m (m + (j - i)) t = rotv d (m - i) m (m + j) t := by
  unfold rotv
  by_cases e1 : m - i ≤ t ∧ t < m - i + (j - i)
  · rw [if_pos (by omega), if_pos (by omega), h.2]
    by_cases e3 : m - i ≤ t + (m - (m - i)) ∧ t + (m - (m - i)) < m - i + i
    · omega
    · rw [if_neg e3, if_neg (by omega)]
  · by_cases e2 : m - i + (j - i) ≤ t ∧ t < m + (j - i)
    · rw [if_neg (by omega), if_pos (by omega), h.2]
      by_cases e3 : m - i ≤ t - (m + (j - i) - m) ∧ t - (m + (j - i) - m) < m - i + i
      · rw [if_pos e3]
        rw [if_pos (by omega)]
        congr 1; omega
      · omega
    · by_cases e3 : m + (j - i) ≤ t ∧ t < m + j
      · rw [if_neg (by omega), if_neg (by omega), if_neg (by omega), if_pos (by omega), h.2, if_neg (by omega), if_pos (by omega)]
        congr 1; omega
      · rw [if_neg (by omega), if_neg (by omega), if_neg (by omega), if_neg (by omega), h.2, if_neg (by omega), if_neg (by omega)]
theorem rot_end {d d' : Array α} {m i : Nat} (him : i ≤ m) (h : Swapped (m - i) m i d d') (t : Nat) : d'[t]! = rotv d (m - i) m (m + i) t := by
  unfold rotv
  rw [h.2]
  by_cases e1 : m - i ≤ t ∧ t < m - i + i
  · rw [if_pos e1, if_pos (by omega)]
    congr 1; omega
  · rw [if_neg e1]
    by_cases e2 : m ≤ t ∧ t < m + i
    · rw [if_pos e2, if_neg (by omega), if_pos (by omega)]
      congr 1; omega
    · rw [if_neg e2, if_neg (by omega), if_neg (by omega)]
end

end Go.Proofs.Ytiioojnoggcnmaa

/-
  What is proved here: plain facts on pairs in the wrong order: under a map that keeps the order, and from the end on in the opposite order of size; piles under a map that keeps the order; no condition.
-/
import Derived.Test.YtlcliogddepmiaaSetPlain
import Derived.Test.YtlcliogddepmiaaPilesPlain
namespace Go.Proofs.Ytlcliogddepmiaa
set_option linter.unusedVariables false

theorem inv_map {f : Int → Int} : ∀ (l : List Int), (∀ a ∈ l, ∀ b ∈ l, (f a < f b ↔ a < b)) → inv (l.map f) = inv l
  | [], _ => rfl
  | x :: r, h => by
    simp only [List.map_cons, inv]
    rw [inv_map r (fun a ha b hb => h a (by simp [ha]) b (by simp [hb])), List.countP_map]
    congr 1
    apply List.countP_congr
    intro y hy
    simp only [Function.comp, decide_eq_true_iff]
    exact h y (by simp [hy]) x (by simp)
theorem inv_ranks (x : List Int) : inv (ranks x) = inv x := inv_map x (fun a ha b hb => rank_lt ha hb)
theorem inv_opp_rev (x : List Int) : inv (opp x.reverse) = inv x := by
  induction x with
  | nil => rfl
  | cons a r ih =>
    have e : opp (a :: r).reverse = opp r.reverse ++ [-1 - a] := by simp [opp]
    rw [e, inv_snoc, ih]
    simp only [inv]
    have h2 : (opp r.reverse).countP (fun y => decide (-1 - a < y)) = r.countP (fun y => decide (y < a)) := by
      unfold opp
      rw [List.countP_map, List.countP_reverse]
      apply List.countP_congr
      intro y hy
      simp only [Function.comp, decide_eq_true_iff]
      omega
    omega

theorem fits_map {weak : Bool} {f : Int → Int} {v t : Int} (h1 : f v < f t ↔ v < t) (h2 : f t < f v ↔ t < v) : fits weak (f v) (f t) = fits weak v t := by
  unfold fits
  cases weak
  · simp only [Bool.false_eq_true, if_false]
    rw [Bool.eq_iff_iff, decide_eq_true_iff, decide_eq_true_iff]
    omega
  · simp only [if_true]
    rw [Bool.eq_iff_iff, decide_eq_true_iff, decide_eq_true_iff]
    exact h1
theorem pput_map {weak : Bool} {f : Int → Int} {v : Int} : ∀ (l : List Int), (∀ t ∈ l, (f v < f t ↔ v < t) ∧ (f t < f v ↔ t < v)) → pput weak (f v) (l.map f) = (pput weak v l).map f
  | [], _ => rfl
  | t :: r, h => by
    simp only [List.map_cons, pput]
    rw [fits_map (h t (by simp)).1 (h t (by simp)).2]
    split
    · rfl
    · rw [pput_map r (fun t ht => h t (by simp [ht]))]
      rfl
theorem piles_mem {weak : Bool} {xs : List Int} {v : Int} (h : v ∈ piles weak xs) : v ∈ xs := by
  suffices hs : ∀ (l a : List Int), v ∈ l.foldl (fun tops v => pput weak v tops) a → v ∈ a ∨ v ∈ l by
    rcases hs xs [] h with h | h
    · cases h
    · exact h
  intro l
  induction l with
  | nil => intro a h; exact .inl h
  | cons x r ih =>
    intro a h
    rcases ih _ h with h | h
    · rcases pput_mem h with h | h
      · exact .inr (by simp [h])
      · exact .inl h
    · exact .inr (by simp [h])
theorem piles_map {weak : Bool} {f : Int → Int} (xs : List Int) (h : ∀ a ∈ xs, ∀ b ∈ xs, (f a < f b ↔ a < b)) : piles weak (xs.map f) = (piles weak xs).map f := by
  suffices hs : ∀ n (l : List Int), l.length = n → (∀ a ∈ l, ∀ b ∈ l, (f a < f b ↔ a < b)) → piles weak (l.map f) = (piles weak l).map f from hs _ xs rfl h
  intro n
  induction n with
  | zero => intro l hl _; rw [List.eq_nil_of_length_eq_zero hl]; rfl
  | succ n ih =>
    intro l hl h
    have hne : l ≠ [] := by intro e; rw [e] at hl; simp at hl
    obtain ⟨r, x, rfl⟩ : ∃ r x, l = r ++ [x] := ⟨_, _, (List.dropLast_concat_getLast hne).symm⟩
    rw [List.map_append, List.map_cons, List.map_nil, piles_snoc, piles_snoc, ih r (by simpa using hl) (fun a ha b hb => h a (by simp [ha]) b (by simp [hb]))]
    apply pput_map
    intro t ht
    have := piles_mem ht
    exact ⟨h x (by simp) t (by simp [this]), h t (by simp [this]) x (by simp)⟩
theorem piles_ranks (weak : Bool) (x : List Int) : piles weak (ranks x) = (piles weak x).map (fun v => (rank x v : Int)) := piles_map x (fun a ha b hb => rank_lt ha hb)

end Go.Proofs.Ytlcliogddepmiaa

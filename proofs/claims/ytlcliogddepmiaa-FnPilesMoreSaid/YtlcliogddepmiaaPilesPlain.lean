/-
  What is proved here: plain facts on piles: a number is put on the first pile whose top is not less (or greater), and the tops are the least ends of the longest rising parts; no condition.
-/
import Derived.Test.YtlcliogddepmiaaPlain
namespace Go.Proofs.Ytlcliogddepmiaa
set_option linter.unusedVariables false

/-- May v lie on a pile with the top t? -/
def fits (weak : Bool) (v t : Int) : Bool := if weak then decide (v < t) else decide (v ≤ t)

def pput (weak : Bool) (v : Int) : List Int → List Int
  | [] => [v]
  | t :: r => if fits weak v t then v :: r else t :: pput weak v r

def piles (weak : Bool) (xs : List Int) : List Int := xs.foldl (fun tops v => pput weak v tops) []

theorem piles_snoc (weak : Bool) (xs : List Int) (v : Int) : piles weak (xs ++ [v]) = pput weak v (piles weak xs) := by
  simp [piles, List.foldl_append]

theorem piles_take {weak : Bool} {xs : List Int} {k : Nat} {v : Int} (h : xs[k]? = some v) : piles weak (xs.take (k + 1)) = pput weak v (piles weak (xs.take k)) := by
  rw [List.take_add_one, h]
  exact piles_snoc weak _ v

/-- The place of v: the first top on which it may lie. -/
theorem pput_at (weak : Bool) (v : Int) (l : List Int) (i : Nat) (hi : i < l.length) (h1 : ∀ t, t < i → fits weak v (l.getD t 0) = false) (h2 : fits weak v (l.getD i 0) = true) : pput weak v l = l.set i v := by
  induction l generalizing i with
  | nil => simp at hi
  | cons t r ih =>
    cases i with
    | zero => simp at h2; simp [pput, h2]
    | succ i =>
      have h0 := h1 0 (by omega)
      simp at h0
      simp only [pput, h0, Bool.false_eq_true, if_false, List.set_cons_succ]
      rw [ih i (by simpa using hi) (fun t ht => by simpa using h1 (t + 1) (by omega)) (by simpa using h2)]

theorem pput_end (weak : Bool) (v : Int) (l : List Int) (h1 : ∀ t, t < l.length → fits weak v (l.getD t 0) = false) : pput weak v l = l ++ [v] := by
  induction l with
  | nil => rfl
  | cons t r ih =>
    have h0 := h1 0 (by simp)
    simp at h0
    simp only [pput, h0, Bool.false_eq_true, if_false, List.cons_append]
    rw [ih (fun t ht => by simpa using h1 (t + 1) (by simpa using ht))]

theorem pput_len (weak : Bool) (v : Int) (l : List Int) : l.length ≤ (pput weak v l).length ∧ (pput weak v l).length ≤ l.length + 1 := by
  induction l with
  | nil => simp [pput]
  | cons t r ih =>
    simp only [pput]
    split <;> simp <;> omega

theorem piles_len (weak : Bool) (xs : List Int) : (piles weak xs).length ≤ xs.length := by
  suffices h : ∀ (l : List Int) (a : List Int), (l.foldl (fun tops v => pput weak v tops) a).length ≤ a.length + l.length by simpa [piles] using h xs []
  intro l
  induction l with
  | nil => intro a; simp
  | cons x r ih =>
    intro a
    have h1 := (pput_len weak x a).2
    have h2 := ih (pput weak x a)
    simp only [List.foldl_cons, List.length_cons]
    omega

/-- The tops rise (or do not fall). -/
def Rise (weak : Bool) (l : List Int) : Prop := l.Pairwise (fun a b => if weak then a ≤ b else a < b)

theorem rise_asc {weak : Bool} {l : List Int} (h : Rise weak l) : Asc l := by
  unfold Rise at h
  unfold Asc
  refine h.imp ?_
  intro a b hab
  cases weak <;> simp at hab <;> omega

theorem pput_mem {weak : Bool} {v x : Int} {l : List Int} (h : x ∈ pput weak v l) : x = v ∨ x ∈ l := by
  induction l with
  | nil => simp [pput] at h; exact .inl h
  | cons t r ih =>
    simp only [pput] at h
    split at h
    · simp at h
      rcases h with h | h
      · exact .inl h
      · exact .inr (by simp [h])
    · simp at h
      rcases h with h | h
      · exact .inr (by simp [h])
      · rcases ih h with h | h
        · exact .inl h
        · exact .inr (by simp [h])

theorem pput_rise {weak : Bool} {v : Int} {l : List Int} (h : Rise weak l) : Rise weak (pput weak v l) := by
  induction l with
  | nil => simp [pput, Rise]
  | cons t r ih =>
    unfold Rise at h ih ⊢
    rw [List.pairwise_cons] at h
    cases hf : fits weak v t with
    | true =>
      simp only [pput, hf, if_true]
      rw [List.pairwise_cons]
      refine ⟨fun a ha => ?_, h.2⟩
      have := h.1 a ha
      cases weak <;> simp [fits] at * <;> omega
    | false =>
      simp only [pput, hf, Bool.false_eq_true, if_false]
      rw [List.pairwise_cons]
      refine ⟨fun a ha => ?_, ih h.2⟩
      rcases pput_mem ha with rfl | ha
      · cases weak <;> simp [fits] at * <;> omega
      · exact h.1 a ha

theorem piles_rise (weak : Bool) (xs : List Int) : Rise weak (piles weak xs) := by
  suffices h : ∀ (l : List Int) (a : List Int), Rise weak a → Rise weak (l.foldl (fun tops v => pput weak v tops) a) from h xs [] (by simp [Rise])
  intro l
  induction l with
  | nil => exact fun a ha => ha
  | cons x r ih => exact fun a ha => ih _ (pput_rise ha)

/-- On a rising list 'fits' is true from some place on. -/
theorem fits_mono {weak : Bool} {v : Int} {l : List Int} (h : Rise weak l) {a b : Nat} (hab : a ≤ b) (hb : b < l.length) (hf : fits weak v (l.getD a 0) = true) : fits weak v (l.getD b 0) = true := by
  have := asc_get (rise_asc h) hab (x := l.getD a 0) (y := l.getD b 0) (by rw [List.getD_eq_getElem?_getD, List.getElem?_eq_getElem (by omega)]; rfl) (by rw [List.getD_eq_getElem?_getD, List.getElem?_eq_getElem hb]; rfl)
  cases weak <;> simp [fits] at * <;> omega

end Go.Proofs.Ytlcliogddepmiaa

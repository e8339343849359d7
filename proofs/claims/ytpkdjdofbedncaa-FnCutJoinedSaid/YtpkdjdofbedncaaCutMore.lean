/-
  What is proved here: plain laws on cuts of loads into parts: bounds, from the end on, two lists of loads, one load more; no condition.
-/
import Derived.Test.YtpkdjdofbedncaaCutPlain
namespace Go.Proofs.Ytpkdjdofbedncaa
set_option linter.unusedVariables false

theorem C_append {a b m : Nat} {l1 l2 : List Nat} (h1 : C a m l1) (h2 : C b m l2) : C (a + b) m (l1 ++ l2) := by
  induction b generalizing l2 with
  | zero =>
    have : l2 = [] := h2
    subst this
    simpa using h1
  | succ b ih =>
    obtain ⟨k, hk, h3, h4⟩ := h2
    have h5 := ih h3
    refine ⟨l1.length + k, by simp; omega, ?_, ?_⟩
    · rw [List.take_length_add_append]; exact h5
    · rw [List.drop_length_add_append]; exact h4
theorem C_split {a b m : Nat} {ls : List Nat} : C (a + b) m ls ↔ ∃ k, k ≤ ls.length ∧ C a m (ls.take k) ∧ C b m (ls.drop k) := by
  constructor
  · induction b generalizing ls with
    | zero =>
      intro h
      exact ⟨ls.length, Nat.le_refl _, by simpa using h, by simp; rfl⟩
    | succ b ih =>
      rintro ⟨k, hk, h1, h2⟩
      obtain ⟨j, hj, h3, h4⟩ := ih h1
      rw [List.length_take] at hj
      refine ⟨j, by omega, ?_, k - j, by rw [List.length_drop]; omega, ?_, ?_⟩
      · rw [List.take_take, Nat.min_eq_left (by omega)] at h3; exact h3
      · rw [List.drop_take] at h4; exact h4
      · rw [List.drop_drop, show j + (k - j) = k by omega]; exact h2
  · rintro ⟨k, hk, h1, h2⟩
    have := C_append h1 h2
    rwa [List.take_append_drop] at this
theorem C_rev {q m : Nat} {ls : List Nat} (h : C q m ls) : C q m ls.reverse := by
  induction q generalizing ls with
  | zero =>
    have : ls = [] := h
    subst this
    rfl
  | succ q ih =>
    obtain ⟨k, hk, h1, h2⟩ := h
    have h3 := ih h1
    have h4 : C 1 m (ls.drop k).reverse := C_one.2 (by rw [List.sum_reverse]; exact h2)
    have h5 := C_append h4 h3
    rw [← List.reverse_append, List.take_append_drop, Nat.add_comm] at h5
    exact h5
theorem C_rev_iff {q m : Nat} {ls : List Nat} : C q m ls.reverse ↔ C q m ls := ⟨fun h => by have := C_rev h; rwa [List.reverse_reverse] at this, C_rev⟩
theorem C_sum {q m : Nat} {ls : List Nat} (h : C q m ls) : ls.sum ≤ m * q := by
  induction q generalizing ls with
  | zero =>
    have : ls = [] := h
    subst this
    simp
  | succ q ih =>
    obtain ⟨k, hk, h1, h2⟩ := h
    have := ih h1
    have h3 := sum_take_drop ls k
    rw [Nat.mul_add]
    omega
theorem C_single {m : Nat} {ls : List Nat} (h : ∀ l ∈ ls, l ≤ m) : C ls.length m ls := by
  suffices hs : ∀ n (ls : List Nat), ls.length = n → (∀ l ∈ ls, l ≤ m) → C n m ls from hs _ ls rfl h
  intro n
  induction n with
  | zero => intro ls hl _; exact List.eq_nil_of_length_eq_zero hl
  | succ n ih =>
    intro ls hl h
    refine ⟨n, by omega, ih _ (by rw [List.length_take]; omega) (fun l hl => h l (List.mem_of_mem_take hl)), ?_⟩
    have e : ls.drop n = [ls[n]] := by rw [List.drop_eq_getElem_cons (by omega), List.drop_of_length_le (by omega)]
    rw [e]
    simp
    exact h _ (List.getElem_mem _)

/-- The greatest load. -/
def most (ls : List Nat) : Nat := ls.foldl max 0
theorem most_le {ls : List Nat} {m : Nat} : most ls ≤ m ↔ ∀ l ∈ ls, l ≤ m := by
  suffices hs : ∀ (ls : List Nat) (a : Nat), ls.foldl max a ≤ m ↔ a ≤ m ∧ ∀ l ∈ ls, l ≤ m by
    rw [most, hs]
    simp
  intro ls
  induction ls with
  | nil => intro a; simp
  | cons x r ih =>
    intro a
    simp only [List.foldl_cons, ih, List.mem_cons, forall_eq_or_imp]
    rw [Nat.max_le]
    exact and_assoc
theorem most_snoc (ls : List Nat) (x : Nat) : most (ls ++ [x]) = max (most ls) x := by simp [most, List.foldl_append]

theorem cut_bounds {q : Nat} {ls : List Nat} {c : Nat} (h : IsCut (q + 1) ls c) : most ls ≤ c ∧ ls.sum ≤ c * (q + 1) ∧ c ≤ ls.sum ∧ (ls.length ≤ q + 1 → c = most ls) ∧ (q = 0 → c = ls.sum) := by
  have hc := (h c).1 (Nat.le_refl _)
  have h1 : most ls ≤ c := most_le.2 (C_each hc)
  refine ⟨h1, C_sum hc, isCut_le h, fun hl => ?_, fun hq => ?_⟩
  · apply Nat.le_antisymm _ h1
    rw [h]
    exact C_mono (C_single (most_le.1 (Nat.le_refl _))) hl
  · subst hq
    exact cut_unique h (isCut_one ls)
theorem cut_falls {q : Nat} {ls : List Nat} {c d : Nat} (h : IsCut q ls c) (k : IsCut (q + 1) ls d) : d ≤ c := by
  rw [k]
  exact C_more ((h c).1 (Nat.le_refl _))
theorem cut_mirror {q : Nat} {ls : List Nat} {c d : Nat} (h : IsCut q ls c) (k : IsCut q ls.reverse d) : d = c := cut_unique (fun m => (k m).trans C_rev_iff) h
/-- The best place to divide the loads. -/
theorem cut_joined {p q : Nat} {ls : List Nat} {c : Nat} (h : IsCut (p + q) ls c) {f g : Nat → Nat} (hf : ∀ i, i ≤ ls.length → IsCut p (ls.take i) (f i)) (hg : ∀ i, i ≤ ls.length → IsCut q (ls.drop i) (g i)) :
    (∀ i, i ≤ ls.length → c ≤ max (f i) (g i)) ∧ ∃ i, i ≤ ls.length ∧ max (f i) (g i) = c := by
  have h1 : ∀ m, c ≤ m ↔ ∃ i, i ≤ ls.length ∧ max (f i) (g i) ≤ m := by
    intro m
    rw [h, C_split]
    constructor
    · rintro ⟨k, hk, h1, h2⟩
      refine ⟨k, hk, ?_⟩
      rw [Nat.max_le, hf k hk, hg k hk]
      exact ⟨h1, h2⟩
    · rintro ⟨k, hk, h1⟩
      rw [Nat.max_le, hf k hk, hg k hk] at h1
      exact ⟨k, hk, h1.1, h1.2⟩
  have h2 : ∀ i, i ≤ ls.length → c ≤ max (f i) (g i) := fun i hi => (h1 _).2 ⟨i, hi, Nat.le_refl _⟩
  refine ⟨h2, ?_⟩
  obtain ⟨i, hi, h3⟩ := (h1 c).1 (Nat.le_refl _)
  exact ⟨i, hi, Nat.le_antisymm h3 (h2 i hi)⟩
theorem sum_set {ls : List Nat} {i x y : Nat} (h : ls[i]? = some x) : (ls.set i y).sum + x = ls.sum + y := by
  induction ls generalizing i with
  | nil => simp at h
  | cons a r ih =>
    cases i with
    | zero => simp at h; subst h; simp; omega
    | succ i =>
      have := ih (i := i) (by simpa using h)
      simp
      omega
theorem C_set_up {q m d : Nat} {ls : List Nat} {i x : Nat} (hx : ls[i]? = some x) (h : C q m ls) : C q (m + d) (ls.set i (x + d)) := by
  induction q generalizing ls i with
  | zero =>
    have : ls = [] := h
    subst this
    simp at hx
  | succ q ih =>
    obtain ⟨k, hk, h1, h2⟩ := h
    have hil := (List.getElem?_eq_some_iff.1 hx).1
    refine ⟨k, by simpa using hk, ?_, ?_⟩
    · rw [List.take_set]
      by_cases hik : i < k
      · exact ih (by rw [List.getElem?_take, if_pos hik]; exact hx) h1
      · rw [List.set_eq_of_length_le (by rw [List.length_take]; omega)]
        exact C_up h1 (by omega)
    · rw [List.drop_set]
      split
      · omega
      · have := sum_set (ls := ls.drop k) (i := i - k) (x := x) (y := x + d) (by rw [List.getElem?_drop, show k + (i - k) = i by omega]; exact hx)
        omega
theorem C_set_down {q m d : Nat} {ls : List Nat} {i x : Nat} (hx : ls[i]? = some x) (h : C q m (ls.set i (x + d))) : C q m ls := by
  induction q generalizing ls i with
  | zero =>
    have h2 : ls.set i (x + d) = [] := h
    have : ls = [] := List.eq_nil_of_length_eq_zero (by have := congrArg List.length h2; simpa using this)
    exact this
  | succ q ih =>
    obtain ⟨k, hk, h1, h2⟩ := h
    have hil := (List.getElem?_eq_some_iff.1 hx).1
    refine ⟨k, by simpa using hk, ?_, ?_⟩
    · rw [List.take_set] at h1
      by_cases hik : i < k
      · exact ih (by rw [List.getElem?_take, if_pos hik]; exact hx) h1
      · rw [List.set_eq_of_length_le (by rw [List.length_take]; omega)] at h1
        exact h1
    · rw [List.drop_set] at h2
      split at h2
      · exact h2
      · have := sum_set (ls := ls.drop k) (i := i - k) (x := x) (y := x + d) (by rw [List.getElem?_drop, show k + (i - k) = i by omega]; exact hx)
        omega
theorem cut_more {q d : Nat} {ls : List Nat} {i x a b : Nat} (hx : ls[i]? = some x) (h : IsCut q ls a) (k : IsCut q (ls.set i (x + d)) b) : a ≤ b ∧ b ≤ a + d := by
  constructor
  · rw [h]
    exact C_set_down hx ((k b).1 (Nat.le_refl _))
  · rw [k]
    exact C_set_up hx ((h a).1 (Nat.le_refl _))

end Go.Proofs.Ytpkdjdofbedncaa

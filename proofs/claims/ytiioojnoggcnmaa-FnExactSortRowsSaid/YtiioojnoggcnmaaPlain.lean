/-
  What is proved here: plain facts on lists of integers: sorted lists, places in them, pairs in the wrong order; no condition.
-/
namespace Go.Proofs.Ytiioojnoggcnmaa
set_option linter.unusedVariables false

/-- Ascending. -/
def Asc (l : List Int) : Prop := l.Pairwise (· ≤ ·)

/-- How many pairs stand in the wrong order. -/
def inv : List Int → Nat
  | [] => 0
  | x :: r => r.countP (fun y => decide (y < x)) + inv r

theorem inv_snoc (l : List Int) (v : Int) : inv (l ++ [v]) = inv l + l.countP (fun y => decide (v < y)) := by
  induction l with
  | nil => simp [inv]
  | cons x r ih =>
    simp only [List.cons_append, inv, List.countP_append, List.countP_cons, ih]
    simp
    omega

theorem inv_le (l : List Int) : inv l ≤ l.length * l.length := by
  induction l with
  | nil => simp [inv]
  | cons x r ih =>
    have h : r.countP (fun y => decide (y < x)) ≤ r.length := List.countP_le_length
    simp only [inv, List.length_cons, Nat.add_mul, Nat.mul_add]
    omega

theorem asc_get {l : List Int} (h : Asc l) {i j : Nat} {x y : Int} (hij : i ≤ j) (hx : l[i]? = some x) (hy : l[j]? = some y) : x ≤ y := by
  obtain ⟨hi, rfl⟩ := List.getElem?_eq_some_iff.1 hx
  obtain ⟨hj, rfl⟩ := List.getElem?_eq_some_iff.1 hy
  rcases Nat.lt_or_ge i j with h1 | h1
  · exact List.pairwise_iff_getElem.1 h i j hi hj h1
  · obtain rfl : i = j := by omega
    exact Int.le_refl _

/-- A number put in at the place ahead of which all are at most it, and from which on all are greater. -/
theorem asc_insert {l : List Int} (h : Asc l) (i : Nat) (v : Int) (h1 : ∀ x ∈ l.take i, x ≤ v) (h2 : ∀ x ∈ l.drop i, v ≤ x) : Asc (l.take i ++ [v] ++ l.drop i) := by
  unfold Asc at *
  rw [List.append_assoc, List.pairwise_append]
  refine ⟨h.sublist (List.take_sublist _ _), ?_, ?_⟩
  · simp only [List.singleton_append, List.pairwise_cons]
    exact ⟨h2, h.sublist (List.drop_sublist _ _)⟩
  · intro a ha b hb
    simp only [List.singleton_append, List.mem_cons] at hb
    rcases hb with rfl | hb
    · exact h1 a ha
    · exact Int.le_trans (h1 a ha) (h2 b hb)

theorem perm_insert (l : List Int) (i : Nat) (v : Int) : (l.take i ++ [v] ++ l.drop i).Perm (l ++ [v]) := by
  have h1 : (l.take i ++ [v] ++ l.drop i).Perm (v :: (l.take i ++ l.drop i)) := by
    rw [List.append_assoc]
    exact List.perm_middle
  rw [List.take_append_drop] at h1
  exact h1.trans (List.perm_append_singleton v l).symm

/-- The places are parted: ahead of i the test is false, from i on it is true. -/
theorem countP_parted (l : List Int) (p : Int → Bool) (i : Nat) (h1 : ∀ x ∈ l.take i, p x = false) (h2 : ∀ x ∈ l.drop i, p x = true) : l.countP p = l.length - i := by
  have h3 : l.countP p = (l.take i).countP p + (l.drop i).countP p := by rw [← List.countP_append, List.take_append_drop]
  have h4 : (l.take i).countP p = 0 := List.countP_eq_zero.2 (fun x hx => by simp [h1 x hx])
  have h5 : (l.drop i).countP p = (l.drop i).length := List.countP_eq_length.2 h2
  rw [h3, h4, h5, List.length_drop]
  omega

theorem mem_take_get {l : List Int} {i : Nat} {x : Int} (h : x ∈ l.take i) : ∃ k, k < i ∧ l[k]? = some x := by
  obtain ⟨k, hk, rfl⟩ := List.mem_iff_getElem.1 h
  have hk2 : k < i := by simp at hk; omega
  exact ⟨k, hk2, by rw [List.getElem_take]; exact List.getElem?_eq_getElem _⟩
theorem mem_drop_get {l : List Int} {i : Nat} {x : Int} (h : x ∈ l.drop i) : ∃ k, i ≤ k ∧ l[k]? = some x := by
  obtain ⟨k, hk, rfl⟩ := List.mem_iff_getElem.1 h
  exact ⟨i + k, by omega, by rw [List.getElem_drop]; exact List.getElem?_eq_getElem _⟩

end Go.Proofs.Ytiioojnoggcnmaa

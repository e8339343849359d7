/-
  What is proved here: plain facts on cutting a list of loads, in order, into parts: the greedy count, the table of the reference, and what both say; no condition.
-/
namespace Go.Proofs.Ytpkdjdofbedncaa
set_option linter.unusedVariables false

/-- The loads can be cut, in order, into q parts (some may be empty) with sums of at most m. -/
def C : Nat → Nat → List Nat → Prop
  | 0, m, ls => ls = []
  | q + 1, m, ls => ∃ k, k ≤ ls.length ∧ C q m (ls.take k) ∧ (ls.drop k).sum ≤ m

theorem C_nil (q m : Nat) : C q m [] := by
  induction q with
  | zero => rfl
  | succ q ih => exact ⟨0, by simp, by simpa using ih, by simp⟩
theorem C_more {q m : Nat} {ls : List Nat} (h : C q m ls) : C (q + 1) m ls := ⟨ls.length, Nat.le_refl _, by simpa using h, by simp⟩
theorem C_mono {q r m : Nat} {ls : List Nat} (h : C q m ls) (hr : q ≤ r) : C r m ls := by
  induction r with
  | zero => obtain rfl : q = 0 := by omega
            exact h
  | succ r ih =>
    by_cases hq : q ≤ r
    · exact C_more (ih hq)
    · obtain rfl : q = r + 1 := by omega
      exact h
theorem C_up {q m n : Nat} {ls : List Nat} (h : C q m ls) (hm : m ≤ n) : C q n ls := by
  induction q generalizing ls with
  | zero => exact h
  | succ q ih =>
    obtain ⟨k, hk, h1, h2⟩ := h
    exact ⟨k, hk, ih h1, by omega⟩
theorem C_one {m : Nat} {ls : List Nat} : C 1 m ls ↔ ls.sum ≤ m := by
  constructor
  · rintro ⟨k, hk, h1, h2⟩
    have h3 : ls.take k = [] := h1
    have h4 : ls.drop k = ls := by
      have := List.take_append_drop k ls
      rw [h3] at this
      simpa using this
    rwa [h4] at h2
  · intro h
    exact ⟨0, by omega, by simp [C], by simpa using h⟩

theorem sum_take_drop (ls : List Nat) (k : Nat) : (ls.take k).sum + (ls.drop k).sum = ls.sum := by rw [← List.sum_append, List.take_append_drop]
theorem le_sum {l : Nat} {ls : List Nat} (h : l ∈ ls) : l ≤ ls.sum := by
  induction ls with
  | nil => cases h
  | cons x r ih =>
    simp only [List.sum_cons]
    rcases List.mem_cons.1 h with rfl | h
    · omega
    · have := ih h; omega
/-- No load is greater than a part. -/
theorem C_each {q m : Nat} {ls : List Nat} (h : C q m ls) : ∀ l ∈ ls, l ≤ m := by
  induction q generalizing ls with
  | zero => intro l hl; rw [show ls = [] from h] at hl; cases hl
  | succ q ih =>
    obtain ⟨k, hk, h1, h2⟩ := h
    intro l hl
    rw [← List.take_append_drop k ls, List.mem_append] at hl
    rcases hl with hl | hl
    · exact ih h1 l hl
    · have := le_sum hl; omega

/-- One step of the greedy cut: (sum of the last part, how many parts). -/
def gstep (m : Nat) (s : Nat × Nat) (l : Nat) : Nat × Nat := if m < s.1 + l then (l, s.2 + 1) else (s.1 + l, s.2)
def greedy (m : Nat) (ls : List Nat) : Nat × Nat := ls.foldl (gstep m) (0, 1)
theorem greedy_snoc (m : Nat) (ls : List Nat) (l : Nat) : greedy m (ls ++ [l]) = gstep m (greedy m ls) l := by simp [greedy, List.foldl_append]

theorem snoc_ind {P : List Nat → Prop} (h0 : P []) (h1 : ∀ l x, P l → P (l ++ [x])) (ls : List Nat) : P ls := by
  have h : ∀ n (l : List Nat), l.length = n → P l := by
    intro n
    induction n with
    | zero => intro l hl; rw [List.eq_nil_of_length_eq_zero hl]; exact h0
    | succ n ih =>
      intro l hl
      have hne : l ≠ [] := by intro e; rw [e] at hl; simp at hl
      rw [← List.dropLast_concat_getLast hne]
      exact h1 _ _ (ih _ (by simp [hl]))
  exact h _ ls rfl

theorem greedy_pos (m : Nat) (ls : List Nat) : 1 ≤ (greedy m ls).2 := by
  refine snoc_ind (P := fun ls => 1 ≤ (greedy m ls).2) (by simp [greedy]) (fun l x ih => ?_) ls
  rw [greedy_snoc]
  unfold gstep
  split <;> simp <;> omega

/-- The greedy cut is a cut. -/
theorem greedy_cut (m : Nat) (ls : List Nat) (h : ∀ l ∈ ls, l ≤ m) : (greedy m ls).1 ≤ m ∧ ∃ k, k ≤ ls.length ∧ C ((greedy m ls).2 - 1) m (ls.take k) ∧ (ls.drop k).sum = (greedy m ls).1 := by
  revert h
  refine snoc_ind (P := fun ls => (∀ l ∈ ls, l ≤ m) → (greedy m ls).1 ≤ m ∧ ∃ k, k ≤ ls.length ∧ C ((greedy m ls).2 - 1) m (ls.take k) ∧ (ls.drop k).sum = (greedy m ls).1) ?_ (fun l x ih => ?_) ls
  · intro _
    exact ⟨by simp [greedy], 0, by simp, by simp [greedy, C], by simp [greedy]⟩
  · intro h
    obtain ⟨hs, k, hk, h1, h2⟩ := ih (fun a ha => h a (by simp [ha]))
    have hp := greedy_pos m l
    rw [greedy_snoc]
    unfold gstep
    split
    · refine ⟨h x (by simp), l.length, by simp, ?_, by simp⟩
      have e : (greedy m l).2 + 1 - 1 = ((greedy m l).2 - 1) + 1 := by omega
      show C ((greedy m l).2 + 1 - 1) m _
      rw [e, List.take_append_of_le_length (Nat.le_refl _), List.take_length]
      exact ⟨k, hk, h1, by omega⟩
    · rename_i hle
      refine ⟨by simpa using hle, k, by simp; omega, ?_, ?_⟩
      · rw [List.take_append_of_le_length hk]; exact h1
      · rw [List.drop_append_of_le_length hk, List.sum_append, h2]; simp

/-- No cut has fewer parts, nor as many with a lesser last one. -/
theorem greedy_least (m : Nat) (ls : List Nat) : ∀ q s, (∃ k, k ≤ ls.length ∧ C q m (ls.take k) ∧ (ls.drop k).sum = s) → s ≤ m → (greedy m ls).2 < q + 1 ∨ ((greedy m ls).2 = q + 1 ∧ (greedy m ls).1 ≤ s) := by
  refine snoc_ind (P := fun ls => ∀ q s, (∃ k, k ≤ ls.length ∧ C q m (ls.take k) ∧ (ls.drop k).sum = s) → s ≤ m → (greedy m ls).2 < q + 1 ∨ ((greedy m ls).2 = q + 1 ∧ (greedy m ls).1 ≤ s)) ?_ (fun l x ih => ?_) ls
  · intro q s _ _
    rcases Nat.eq_zero_or_pos q with h | h
    · exact .inr ⟨by simp [greedy, h], by simp [greedy]⟩
    · exact .inl (by simp [greedy]; omega)
  · intro q
    induction q with
    | zero =>
      rintro s ⟨k, hk, h1, h2⟩ hs
      have hkl : k = 0 := by
        have h3 : (l ++ [x]).take k = [] := h1
        have h4 := congrArg List.length h3
        simp at h4
        omega
      subst hkl
      have h5 := ih 0 l.sum ⟨0, by omega, by simp [C], by simp⟩ (by simp at h2; omega)
      simp at h2
      rw [greedy_snoc]
      have hp := greedy_pos m l
      rcases h5 with h5 | ⟨h5, h6⟩
      · omega
      · unfold gstep
        rw [if_neg (by omega)]
        exact .inr ⟨h5, by simp; omega⟩
    | succ q ihq =>
      rintro s ⟨k, hk, h1, h2⟩ hs
      by_cases hkl : k ≤ l.length
      · rw [List.take_append_of_le_length hkl] at h1
        rw [List.drop_append_of_le_length hkl, List.sum_append] at h2
        simp at h2
        have h5 := ih (q + 1) (l.drop k).sum ⟨k, hkl, h1, rfl⟩ (by omega)
        rw [greedy_snoc]
        unfold gstep
        rcases h5 with h5 | ⟨h5, h6⟩
        · split
          · by_cases h7 : (greedy m l).2 + 1 = q + 1 + 1
            · exact .inr ⟨h7, by simp; omega⟩
            · exact .inl (by simp; omega)
          · exact .inl h5
        · rw [if_neg (by omega)]
          exact .inr ⟨h5, by simp; omega⟩
      · obtain rfl : k = (l ++ [x]).length := by simp at hk ⊢; omega
        rw [List.take_length] at h1
        obtain ⟨k2, hk2, h3, h4⟩ := h1
        have h5 := ihq _ ⟨k2, hk2, h3, rfl⟩ h4
        left
        rcases h5 with h5 | h5 <;> omega

theorem greedy_iff {m q : Nat} {ls : List Nat} (h : ∀ l ∈ ls, l ≤ m) : (greedy m ls).2 ≤ q + 1 ↔ C (q + 1) m ls := by
  constructor
  · intro hq
    obtain ⟨hs, k, hk, h1, h2⟩ := greedy_cut m ls h
    have hp := greedy_pos m ls
    refine C_mono (q := (greedy m ls).2 - 1 + 1) ⟨k, hk, h1, by omega⟩ (by omega)
  · rintro ⟨k, hk, h1, h2⟩
    rcases greedy_least m ls q _ ⟨k, hk, h1, rfl⟩ h2 with h | h <;> omega

/-- c is the least greatest sum. -/
def IsCut (q : Nat) (ls : List Nat) (c : Nat) : Prop := ∀ m, c ≤ m ↔ C q m ls
theorem cut_unique {q : Nat} {ls : List Nat} {c d : Nat} (h : IsCut q ls c) (k : IsCut q ls d) : c = d :=
  Nat.le_antisymm ((h d).2 ((k d).1 (Nat.le_refl _))) ((k c).2 ((h c).1 (Nat.le_refl _)))

theorem cut_found {q i : Nat} {ls : List Nat} {p : Nat → Bool} (hp : ∀ m, p m = true ↔ C (q + 1) m ls) (hi : i ≤ ls.sum) (h1 : ∀ t, t < i → p t = false) (h2 : ∀ t, i ≤ t → t < ls.sum → p t = true) : IsCut (q + 1) ls i := by
  have htop : C (q + 1) ls.sum ls := C_mono (C_one.2 (Nat.le_refl _)) (by omega)
  intro m
  constructor
  · intro hm
    by_cases h3 : m < ls.sum
    · exact (hp m).1 (h2 m hm h3)
    · exact C_up htop (by omega)
  · intro hc
    rcases Nat.lt_or_ge m i with h3 | h3
    · have h4 := (hp m).2 hc
      rw [h1 m h3] at h4
      cases h4
    · exact h3

theorem isCut_one (ls : List Nat) : IsCut 1 ls ls.sum := fun m => C_one.symm
theorem isCut_le {q : Nat} {ls : List Nat} {c : Nat} (h : IsCut (q + 1) ls c) : c ≤ ls.sum := (h _).2 (C_mono (C_one.2 (Nat.le_refl _)) (by omega))

/-- The row of the table: for each number of first loads, the least greatest sum. -/
def Good (r : Nat) (ls : List Nat) (B : List Nat) : Prop := ∀ i c, B[i]? = some c → IsCut (r + 1) (ls.take i) c

/-- What the innermost loop holds. -/
def Mid (r : Nat) (ls : List Nat) (i k v : Nat) : Prop := ∀ m, v ≤ m ↔ (C (r + 1) m (ls.take i) ∨ ∃ t, k ≤ t ∧ t < i ∧ C (r + 1) m (ls.take t) ∧ ((ls.take i).drop t).sum ≤ m)
theorem mid_start {r : Nat} {ls : List Nat} {i c : Nat} (h : IsCut (r + 1) (ls.take i) c) : Mid r ls i i c := fun m => by
  rw [h m]
  constructor
  · exact .inl
  · rintro (h1 | ⟨t, h1, h2, _⟩)
    · exact h1
    · omega
theorem mid_step {r : Nat} {ls : List Nat} {i k v b s : Nat} (h : Mid r ls i (k + 1) v) (hk : k < i) (hb : IsCut (r + 1) (ls.take k) b) (hs : s = ((ls.take i).drop k).sum) : Mid r ls i k (min v (max b s)) := fun m => by
  have e : min v (max b s) ≤ m ↔ v ≤ m ∨ (b ≤ m ∧ s ≤ m) := by omega
  rw [e, h m, hb m, hs]
  constructor
  · rintro ((h1 | ⟨t, h1, h2, h3⟩) | ⟨h1, h2⟩)
    · exact .inl h1
    · exact .inr ⟨t, by omega, h2, h3⟩
    · exact .inr ⟨k, Nat.le_refl _, hk, h1, h2⟩
  · rintro (h1 | ⟨t, h1, h2, h3, h4⟩)
    · exact .inl (.inl h1)
    · by_cases ht : t = k
      · subst ht; exact .inr ⟨h3, h4⟩
      · exact .inl (.inr ⟨t, by omega, h2, h3, h4⟩)
theorem mid_end {r : Nat} {ls : List Nat} {i v : Nat} (h : Mid r ls i 0 v) (hi : i ≤ ls.length) : IsCut (r + 1 + 1) (ls.take i) v := fun m => by
  rw [h m]
  have hl : (ls.take i).length = i := by rw [List.length_take]; omega
  have htt : ∀ t, t ≤ i → (ls.take i).take t = ls.take t := fun t ht => by rw [List.take_take, Nat.min_eq_left ht]
  constructor
  · rintro (h1 | ⟨t, _, h2, h3, h4⟩)
    · exact C_more h1
    · exact ⟨t, by omega, by rw [htt t (by omega)]; exact h3, h4⟩
  · rintro ⟨k, hk, h1, h2⟩
    rw [hl] at hk
    rw [htt k hk] at h1
    by_cases hki : k = i
    · subst hki; exact .inl h1
    · exact .inr ⟨k, by omega, by omega, h1, h2⟩
theorem sum_drop {ls : List Nat} {i k l : Nat} (hk : ls[k]? = some l) (hki : k < i) : ((ls.take i).drop k).sum = l + ((ls.take i).drop (k + 1)).sum := by
  have hlen := (List.getElem?_eq_some_iff.1 hk).1
  have h1 : (ls.take i)[k]? = some l := by rw [List.getElem?_take, if_pos hki]; exact hk
  obtain ⟨h2, h3⟩ := List.getElem?_eq_some_iff.1 h1
  rw [List.drop_eq_getElem_cons h2, h3, List.sum_cons]

end Go.Proofs.Ytpkdjdofbedncaa

/-
  What is proved here: plain facts on spans: the list of merged spans is the one list of spans with gaps between them that has the same numbers; no condition.
-/
namespace Go.Proofs.Ytpkdjdofbedncaa
set_option linter.unusedVariables false

/-- A number stands in a span of the list. -/
def Cov (l : List (Int × Int)) (v : Int) : Prop := ∃ s ∈ l, s.1 ≤ v ∧ v < s.2
/-- Spans that are not empty, each with a gap to the next. -/
def Norm (l : List (Int × Int)) : Prop := (∀ s ∈ l, s.1 < s.2) ∧ l.Pairwise (fun a b => a.2 < b.1)

theorem cov_nil (v : Int) : ¬ Cov [] v := fun ⟨s, hs, _⟩ => by cases hs
theorem cov_append {a b : List (Int × Int)} {v : Int} : Cov (a ++ b) v ↔ Cov a v ∨ Cov b v := by
  unfold Cov
  constructor
  · rintro ⟨s, hs, h⟩
    rw [List.mem_append] at hs
    rcases hs with hs | hs
    · exact .inl ⟨s, hs, h⟩
    · exact .inr ⟨s, hs, h⟩
  · rintro (⟨s, hs, h⟩ | ⟨s, hs, h⟩)
    · exact ⟨s, List.mem_append.2 (.inl hs), h⟩
    · exact ⟨s, List.mem_append.2 (.inr hs), h⟩
theorem cov_one {s : Int × Int} {v : Int} : Cov [s] v ↔ s.1 ≤ v ∧ v < s.2 := by
  unfold Cov
  constructor
  · rintro ⟨t, ht, h⟩
    simp at ht
    subst ht
    exact h
  · intro h
    exact ⟨s, by simp, h⟩
theorem cov_cons {s : Int × Int} {l : List (Int × Int)} {v : Int} : Cov (s :: l) v ↔ (s.1 ≤ v ∧ v < s.2) ∨ Cov l v := by
  rw [show s :: l = [s] ++ l from rfl, cov_append, cov_one]
theorem cov_perm {a b : List (Int × Int)} (h : a.Perm b) {v : Int} : Cov a v ↔ Cov b v := by
  unfold Cov
  constructor
  · rintro ⟨s, hs, h1⟩; exact ⟨s, h.mem_iff.1 hs, h1⟩
  · rintro ⟨s, hs, h1⟩; exact ⟨s, h.mem_iff.2 hs, h1⟩
theorem Norm.tail {s : Int × Int} {l : List (Int × Int)} (h : Norm (s :: l)) : Norm l := ⟨fun t ht => h.1 t (by simp [ht]), (List.pairwise_cons.1 h.2).2⟩
/-- What stands behind the first span lies behind its end. -/
theorem Norm.behind {s : Int × Int} {l : List (Int × Int)} (h : Norm (s :: l)) {v : Int} (hv : Cov l v) : s.2 < v := by
  obtain ⟨t, ht, h1, h2⟩ := hv
  have := (List.pairwise_cons.1 h.2).1 t ht
  omega
theorem norm_unique : ∀ {a b : List (Int × Int)}, Norm a → Norm b → (∀ v, Cov a v ↔ Cov b v) → a = b
  | [], [], _, _, _ => rfl
  | [], t :: r, _, hb, h => by
    have h1 := hb.1 t (by simp)
    exact absurd ((h t.1).2 (cov_cons.2 (.inl ⟨Int.le_refl _, h1⟩))) (cov_nil _)
  | s :: l, [], ha, _, h => by
    have h1 := ha.1 s (by simp)
    exact absurd ((h s.1).1 (cov_cons.2 (.inl ⟨Int.le_refl _, h1⟩))) (cov_nil _)
  | s :: l, t :: r, ha, hb, h => by
    have hs := ha.1 s (by simp)
    have ht := hb.1 t (by simp)
    have e1 : s.1 = t.1 := by
      have h1 := (h s.1).1 (cov_cons.2 (.inl ⟨Int.le_refl _, hs⟩))
      have h2 := (h t.1).2 (cov_cons.2 (.inl ⟨Int.le_refl _, ht⟩))
      rw [cov_cons] at h1 h2
      have h3 : t.1 ≤ s.1 := by
        rcases h1 with h1 | h1
        · exact h1.1
        · have := hb.behind h1; omega
      have h4 : s.1 ≤ t.1 := by
        rcases h2 with h2 | h2
        · exact h2.1
        · have := ha.behind h2; omega
      omega
    have e2 : s.2 = t.2 := by
      have key : ∀ {s t : Int × Int} {l r : List (Int × Int)}, Norm (s :: l) → Norm (t :: r) → (∀ v, Cov (s :: l) v ↔ Cov (t :: r) v) → s.1 = t.1 → s.1 < s.2 → ¬ s.2 < t.2 := by
        intro s t l r ha hb h e1 hs hlt
        have h1 := (h s.2).2 (cov_cons.2 (.inl ⟨by omega, hlt⟩))
        rw [cov_cons] at h1
        rcases h1 with h1 | h1
        · omega
        · have := ha.behind h1; omega
      have h1 := key ha hb h e1 hs
      have h2 := key hb ha (fun v => (h v).symm) e1.symm ht
      omega
    have e3 : s = t := Prod.ext e1 e2
    subst e3
    congr 1
    refine norm_unique ha.tail hb.tail (fun v => ?_)
    constructor
    · intro hv
      have h1 := ha.behind hv
      have h2 := (h v).1 (cov_cons.2 (.inr hv))
      rw [cov_cons] at h2
      rcases h2 with h2 | h2
      · omega
      · exact h2
    · intro hv
      have h1 := hb.behind hv
      have h2 := (h v).2 (cov_cons.2 (.inr hv))
      rw [cov_cons] at h2
      rcases h2 with h2 | h2
      · omega
      · exact h2

/-- One step of the merging loop. -/
def mstep (out : List (Int × Int)) (s : Int × Int) : List (Int × Int) :=
  match out.getLast? with
  | some t => if s.1 ≤ t.2 then out.dropLast ++ [(t.1, max t.2 s.2)] else out ++ [s]
  | none => [s]
def fold (l : List (Int × Int)) : List (Int × Int) := l.foldl mstep []

theorem fold_snoc (l : List (Int × Int)) (s : Int × Int) : fold (l ++ [s]) = mstep (fold l) s := by simp [fold, List.foldl_append]
/-- The spans of an ascending list, none of them empty, merged. -/
theorem fold_facts : ∀ (n : Nat) (l : List (Int × Int)), l.length = n → (∀ s ∈ l, s.1 < s.2) → l.Pairwise (fun a b => a.1 ≤ b.1) →
    Norm (fold l) ∧ (∀ v, Cov (fold l) v ↔ Cov l v) ∧ (fold l).length ≤ l.length ∧ (∀ t ∈ fold l, ∃ s ∈ l, s.1 = t.1) := by
  intro n
  induction n with
  | zero =>
    intro l hl _ _
    rw [List.eq_nil_of_length_eq_zero hl]
    exact ⟨⟨fun s hs => (by cases hs), List.Pairwise.nil⟩, fun v => Iff.rfl, Nat.le_refl _, fun t ht => by cases ht⟩
  | succ n ih =>
    intro l hl hne hs
    have hnil : l ≠ [] := by intro e; rw [e] at hl; simp at hl
    obtain ⟨r, x, rfl⟩ : ∃ r x, l = r ++ [x] := ⟨_, _, (List.dropLast_concat_getLast hnil).symm⟩
    rw [List.pairwise_append] at hs
    obtain ⟨h1, h2, h3, h4⟩ := ih r (by simpa using hl) (fun s hs => hne s (by simp [hs])) hs.1
    have hx := hne x (by simp)
    have hle : ∀ t ∈ fold r, t.1 ≤ x.1 := fun t ht => by
      obtain ⟨s, hsm, e⟩ := h4 t ht
      rw [← e]
      exact hs.2.2 s hsm x (by simp)
    rw [fold_snoc]
    unfold mstep
    cases hg : (fold r).getLast? with
    | none =>
      have hf : fold r = [] := List.getLast?_eq_none_iff.1 hg
      rw [hf] at h2
      refine ⟨⟨fun s hs => by simp at hs; subst hs; exact hx, by simp⟩, fun v => ?_, by simp, fun t ht => ⟨x, by simp, by simp at ht; rw [ht]⟩⟩
      rw [cov_append, ← h2 v]
      constructor
      · exact fun h => .inr h
      · rintro (h | h)
        · exact absurd h (cov_nil v)
        · exact h
    | some t =>
      simp only
      obtain ⟨q, hq⟩ : ∃ q, fold r = q ++ [t] := by
        have hne : fold r ≠ [] := by intro e; rw [e] at hg; cases hg
        refine ⟨(fold r).dropLast, ?_⟩
        rw [List.getLast?_eq_some_getLast hne] at hg
        injection hg with hg
        rw [← hg]
        exact (List.dropLast_concat_getLast hne).symm
      rw [hq] at h1 h2 h3 h4 hle ⊢
      have hnq := h1
      unfold Norm at hnq
      rw [List.pairwise_append] at hnq
      obtain ⟨n1, n2, n3, n4⟩ := hnq
      have ht1 := n1 t (by simp)
      have htx := hle t (by simp)
      by_cases hc : x.1 ≤ t.2
      · rw [if_pos hc, List.dropLast_concat]
        refine ⟨⟨fun s hs => ?_, ?_⟩, fun v => ?_, ?_, fun s hs => ?_⟩
        · rw [List.mem_append] at hs
          rcases hs with hs | hs
          · exact n1 s (by simp [hs])
          · simp at hs; subst hs; simp only; omega
        · rw [List.pairwise_append]
          refine ⟨n2, by simp, fun a ha b hb => ?_⟩
          simp at hb
          subst hb
          exact n4 a ha t (by simp)
        · rw [cov_append, cov_one, cov_append, ← h2 v, cov_append, cov_one, cov_one]
          simp only
          constructor
          · rintro (h | h)
            · exact .inl (.inl h)
            · by_cases hv : v < t.2
              · exact .inl (.inr ⟨h.1, hv⟩)
              · exact .inr ⟨by omega, by omega⟩
          · rintro ((h | h) | h)
            · exact .inl h
            · exact .inr ⟨h.1, by omega⟩
            · exact .inr ⟨by omega, by omega⟩
        · simp at h3 ⊢; omega
        · rw [List.mem_append] at hs
          rcases hs with hs | hs
          · obtain ⟨y, hy, e⟩ := h4 s (by simp [hs])
            exact ⟨y, by simp [hy], e⟩
          · simp at hs
            obtain ⟨y, hy, e⟩ := h4 t (by simp)
            exact ⟨y, by simp [hy], by rw [hs]; exact e⟩
      · rw [if_neg hc]
        refine ⟨⟨fun s hs => ?_, ?_⟩, fun v => ?_, by simp at h3 ⊢; omega, fun s hs => ?_⟩
        · rw [List.mem_append] at hs
          rcases hs with hs | hs
          · exact n1 s hs
          · simp at hs; subst hs; exact hx
        · rw [List.pairwise_append]
          refine ⟨h1.2, by simp, fun a ha b hb => ?_⟩
          simp at hb
          subst hb
          rw [List.mem_append] at ha
          rcases ha with ha | ha
          · have := n4 a ha t (by simp)
            omega
          · simp at ha; subst ha; omega
        · rw [cov_append, cov_append (a := r), ← h2 v]
        · rw [List.mem_append] at hs
          rcases hs with hs | hs
          · obtain ⟨y, hy, e⟩ := h4 s hs
            exact ⟨y, by simp [hy], e⟩
          · simp at hs; exact ⟨x, by simp, by rw [hs]⟩

/-- The spans that are not empty. -/
def full (l : List (Int × Int)) : List (Int × Int) := l.filter fun s => decide (s.1 < s.2)
theorem cov_full {l : List (Int × Int)} {v : Int} : Cov (full l) v ↔ Cov l v := by
  unfold Cov full
  constructor
  · rintro ⟨s, hs, h⟩
    exact ⟨s, (List.mem_filter.1 hs).1, h⟩
  · rintro ⟨s, hs, h⟩
    exact ⟨s, List.mem_filter.2 ⟨hs, by simp; omega⟩, h⟩
/-- m is the list of merged spans of l. -/
def IsMerge (l m : List (Int × Int)) : Prop := Norm m ∧ ∀ v, Cov m v ↔ Cov l v
theorem merge_unique {l m m' : List (Int × Int)} (h : IsMerge l m) (h' : IsMerge l m') : m = m' := norm_unique h.1 h'.1 (fun v => (h.2 v).trans (h'.2 v).symm)
/-- Whatever order of equal beginnings the sorting gives. -/
theorem merge_fold {l d : List (Int × Int)} (hp : d.Perm (full l)) (hs : d.Pairwise (fun a b => a.1 ≤ b.1)) : IsMerge l (fold d) ∧ (fold d).length ≤ l.length := by
  have hne : ∀ s ∈ d, s.1 < s.2 := fun s hsm => by
    have := (List.mem_filter.1 (hp.mem_iff.1 hsm)).2
    simpa using this
  obtain ⟨h1, h2, h3, _⟩ := fold_facts _ d rfl hne hs
  refine ⟨⟨h1, fun v => (h2 v).trans ((cov_perm hp).trans cov_full)⟩, ?_⟩
  have h4 := hp.length_eq
  have h5 : (full l).length ≤ l.length := List.length_filter_le _ _
  omega
/-- The merged spans. -/
noncomputable def merged (l : List (Int × Int)) : List (Int × Int) := fold ((full l).mergeSort fun a b => decide (a.1 ≤ b.1))
theorem merged_sort (l : List (Int × Int)) : ((full l).mergeSort fun a b => decide (a.1 ≤ b.1)).Perm (full l) ∧ ((full l).mergeSort fun a b => decide (a.1 ≤ b.1)).Pairwise (fun a b => a.1 ≤ b.1) := by
  refine ⟨List.mergeSort_perm _ _, ?_⟩
  have := List.pairwise_mergeSort (le := fun a b : Int × Int => decide (a.1 ≤ b.1)) (fun a b c h1 h2 => by simp at *; omega) (fun a b => by simp; omega) (full l)
  exact this.imp (fun h => by simpa using h)
theorem merged_is (l : List (Int × Int)) : IsMerge l (merged l) := (merge_fold (merged_sort l).1 (merged_sort l).2).1
theorem merged_len (l : List (Int × Int)) : (merged l).length ≤ l.length := (merge_fold (merged_sort l).1 (merged_sort l).2).2
theorem merged_eq {l d : List (Int × Int)} (hp : d.Perm (full l)) (hs : d.Pairwise (fun a b => a.1 ≤ b.1)) : fold d = merged l := merge_unique (merge_fold hp hs).1 (merged_is l)
theorem merged_of_cov {l m : List (Int × Int)} (h : ∀ v, Cov l v ↔ Cov m v) : merged l = merged m := norm_unique (merged_is l).1 (merged_is m).1 (fun v => ((merged_is l).2 v).trans ((h v).trans ((merged_is m).2 v).symm))
theorem merged_norm {l : List (Int × Int)} (h : Norm l) : merged l = l := norm_unique (merged_is l).1 h (merged_is l).2

theorem merge_again1 (l : List (Int × Int)) : merged (merged l) = merged l := merged_norm (merged_is l).1
theorem merge_again2 (l : List (Int × Int)) : merged l.reverse = merged l := merged_of_cov (fun v => cov_perm (List.reverse_perm l))
theorem merge_again3 (l : List (Int × Int)) : merged (l ++ merged l) = merged l := merged_of_cov (fun v => by rw [cov_append, (merged_is l).2 v]; exact or_self_iff)
theorem merge_joined (a b : List (Int × Int)) : merged (merged a ++ merged b) = merged (a ++ b) := merged_of_cov (fun v => by rw [cov_append, cov_append, (merged_is a).2 v, (merged_is b).2 v])

end Go.Proofs.Ytpkdjdofbedncaa

/-
  What is proved here: plain facts on merged spans: in how many of them a number stands, and where they begin; no condition.
-/
import Derived.Test.YtpkdjdofbedncaaMergePlain
import Derived.Test.YtpkdjdofbedncaaUniPlain
namespace Go.Proofs.Ytpkdjdofbedncaa
set_option linter.unusedVariables false

/-- In how many spans a number stands. -/
def cnts (l : List (Int × Int)) (v : Int) : Nat := l.countP fun s => decide (s.1 ≤ v ∧ v < s.2)
theorem cnts_pos {l : List (Int × Int)} {v : Int} : 0 < cnts l v ↔ Cov l v := by
  unfold cnts Cov
  rw [List.countP_pos_iff]
  simp
theorem cnts_norm {l : List (Int × Int)} (h : Norm l) (v : Int) : cnts l v ≤ 1 := by
  induction l with
  | nil => simp [cnts]
  | cons s r ih =>
    have h1 := ih h.tail
    by_cases hs : s.1 ≤ v ∧ v < s.2
    · have h2 : cnts r v = 0 := by
        rcases Nat.eq_zero_or_pos (cnts r v) with h0 | h0
        · exact h0
        · have := h.behind (cnts_pos.1 h0)
          omega
      unfold cnts at *
      rw [List.countP_cons, h2]
      simp
      split <;> omega
    · unfold cnts at *
      rw [List.countP_cons, if_neg (by simpa using hs)]
      omega
theorem merge_covers (l : List (Int × Int)) (v : Int) : cnts (merged l) v = min (cnts l v) 1 := by
  have h1 := cnts_norm (merged_is l).1 v
  have h2 : 0 < cnts (merged l) v ↔ 0 < cnts l v := by rw [cnts_pos, cnts_pos, (merged_is l).2 v]
  omega

/-- Does a span begin where no other one has a number or ends? -/
def isFirst (l : List (Int × Int)) (s : Int × Int) : Bool := decide (s.1 < s.2) && l.all fun o => !decide (o.1 < s.1 ∧ s.1 ≤ o.2)
def begins (l : List (Int × Int)) : List Int := (l.filter (isFirst l)).map (·.1)
theorem isFirst_iff {l : List (Int × Int)} {s : Int × Int} : isFirst l s = true ↔ s.1 < s.2 ∧ ∀ o ∈ l, ¬ (o.1 < s.1 ∧ s.1 ≤ o.2) := by
  unfold isFirst
  rw [Bool.and_eq_true, List.all_eq_true, decide_eq_true_iff]
  constructor
  · rintro ⟨h1, h2⟩
    refine ⟨h1, fun o ho => ?_⟩
    have := h2 o ho
    simp at this
    omega
  · rintro ⟨h1, h2⟩
    refine ⟨h1, fun o ho => ?_⟩
    have := h2 o ho
    simp
    omega
theorem norm_apart {l : List (Int × Int)} (h : Norm l) {a b : Int × Int} (ha : a ∈ l) (hb : b ∈ l) : a = b ∨ a.2 < b.1 ∨ b.2 < a.1 := by
  obtain ⟨i, hi, rfl⟩ := List.mem_iff_getElem.1 ha
  obtain ⟨j, hj, rfl⟩ := List.mem_iff_getElem.1 hb
  rcases Nat.lt_trichotomy i j with h1 | h1 | h1
  · exact .inr (.inl (List.pairwise_iff_getElem.1 h.2 i j hi hj h1))
  · subst h1; exact .inl rfl
  · exact .inr (.inr (List.pairwise_iff_getElem.1 h.2 j i hj hi h1))
/-- The number ahead of a merged span's beginning stands in no span. -/
theorem ahead_free {l : List (Int × Int)} {t : Int × Int} (ht : t ∈ merged l) : ¬ Cov l (t.1 - 1) := by
  intro hc
  obtain ⟨u, hu, h1, h2⟩ := ((merged_is l).2 _).2 hc
  have hn := (merged_is l).1
  have ht1 := hn.1 t ht
  rcases norm_apart hn ht hu with e | e | e
  · subst e; omega
  · omega
  · omega
theorem begins_mem {l : List (Int × Int)} {b : Int} : b ∈ begins l ↔ b ∈ (merged l).map (·.1) := by
  have hn := (merged_is l).1
  unfold begins
  simp only [List.mem_map, List.mem_filter]
  constructor
  · rintro ⟨s, ⟨hs, hf⟩, rfl⟩
    obtain ⟨h1, h2⟩ := isFirst_iff.1 hf
    obtain ⟨t, ht, h3, h4⟩ := ((merged_is l).2 s.1).2 ⟨s, hs, Int.le_refl _, h1⟩
    refine ⟨t, ht, ?_⟩
    rcases Int.lt_or_eq_of_le h3 with h5 | h5
    · exfalso
      obtain ⟨o, ho, h6, h7⟩ := ((merged_is l).2 (s.1 - 1)).1 ⟨t, ht, by omega, by omega⟩
      exact h2 o ho ⟨by omega, by omega⟩
    · exact h5
  · rintro ⟨t, ht, rfl⟩
    have ht1 := hn.1 t ht
    obtain ⟨s, hs, h1, h2⟩ := ((merged_is l).2 t.1).1 ⟨t, ht, Int.le_refl _, ht1⟩
    have hfree := ahead_free ht
    have e : s.1 = t.1 := by
      rcases Int.lt_or_eq_of_le h1 with h3 | h3
      · exact absurd ⟨s, hs, by omega, by omega⟩ hfree
      · exact h3
    refine ⟨s, ⟨hs, isFirst_iff.2 ⟨by omega, fun o ho hc => ?_⟩⟩, e⟩
    exact hfree ⟨o, ho, by omega, by omega⟩
theorem merged_firsts (l : List (Int × Int)) : SAsc ((merged l).map (·.1)) := by
  unfold SAsc
  rw [List.pairwise_map]
  have hn := (merged_is l).1
  have h := List.Pairwise.and_mem.1 hn.2
  refine h.imp ?_
  rintro a b ⟨ha, hb, hab⟩
  have := hn.1 a ha
  omega
theorem uni_begins (l : List (Int × Int)) : uni (begins l) = (merged l).map (·.1) := (uni_eq (merged_firsts l) (fun v => begins_mem.symm)).symm
theorem merge_count (l : List (Int × Int)) : (merged l).length = (uni (begins l)).length := by rw [uni_begins, List.length_map]

end Go.Proofs.Ytpkdjdofbedncaa

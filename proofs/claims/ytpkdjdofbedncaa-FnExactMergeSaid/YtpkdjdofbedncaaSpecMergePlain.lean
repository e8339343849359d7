/-
  What is proved here: plain facts on the reference's way to merge spans: the end of the span that begins at a number, found by as many passes as there are spans; no condition.
-/
import Derived.Test.YtpkdjdofbedncaaMergeMore
namespace Go.Proofs.Ytpkdjdofbedncaa
set_option linter.unusedVariables false

/-- One span in a pass. -/
def grab (b e : Int) (s : Int × Int) : Int := if s.1 < s.2 ∧ s.1 ≤ e ∧ b ≤ s.1 then max e s.2 else e
def pass (l : List (Int × Int)) (b e : Int) : Int := l.foldl (grab b) e
def passes (l : List (Int × Int)) (b : Int) : Nat → Int
  | 0 => b
  | k + 1 => pass l b (passes l b k)
theorem grab_ge (b e : Int) (s : Int × Int) : e ≤ grab b e s := by unfold grab; split <;> omega
theorem pass_ge (b : Int) : ∀ (l : List (Int × Int)) (e : Int), e ≤ pass l b e
  | [], e => Int.le_refl _
  | s :: r, e => Int.le_trans (grab_ge b e s) (pass_ge b r (grab b e s))
theorem pass_hit (b : Int) : ∀ (l : List (Int × Int)) (e : Int) (s : Int × Int), s ∈ l → s.1 < s.2 → s.1 ≤ e → b ≤ s.1 → s.2 ≤ pass l b e
  | t :: r, e, s, hs, h1, h2, h3 => by
    rcases List.mem_cons.1 hs with rfl | hs
    · have : s.2 ≤ grab b e s := by unfold grab; rw [if_pos ⟨h1, h2, h3⟩]; omega
      exact Int.le_trans this (pass_ge b r _)
    · exact pass_hit b r (grab b e t) s hs h1 (Int.le_trans h2 (grab_ge b e t)) h3
theorem pass_le (b m : Int) : ∀ (l : List (Int × Int)) (e : Int), (∀ s ∈ l, s.1 < s.2 → s.1 ≤ m → b ≤ s.1 → s.2 ≤ m) → e ≤ m → pass l b e ≤ m
  | [], e, _, h => h
  | s :: r, e, hl, h => by
    refine pass_le b m r (grab b e s) (fun t ht => hl t (by simp [ht])) ?_
    unfold grab
    split
    · rename_i hc
      have := hl s (by simp) hc.1 (by omega) hc.2.2
      omega
    · exact h
theorem pass_snoc (l : List (Int × Int)) (b e : Int) (s : Int × Int) : pass (l ++ [s]) b e = grab b (pass l b e) s := by simp [pass, List.foldl_append]
theorem countP_lt_of_new {l : List (Int × Int)} {p q : Int × Int → Bool} {s : Int × Int} (hs : s ∈ l) (hpq : ∀ u ∈ l, p u = true → q u = true) (h1 : p s = false) (h2 : q s = true) : l.countP p < l.countP q := by
  induction l with
  | nil => cases hs
  | cons a r ih =>
    rw [List.countP_cons, List.countP_cons]
    have hr : r.countP p ≤ r.countP q := List.countP_mono_left (fun u hu => hpq u (by simp [hu]))
    rcases List.mem_cons.1 hs with rfl | hs
    · rw [h1, h2]
      simp
      omega
    · have h3 := ih hs (fun u hu => hpq u (by simp [hu]))
      have h4 : (if p a = true then 1 else 0) ≤ (if q a = true then 1 else 0) := by
        by_cases hp : p a = true
        · rw [if_pos hp, if_pos (hpq a (by simp) hp)]; exact Nat.le_refl _
        · rw [if_neg hp]; exact Nat.zero_le _
      omega
theorem passes_end (l : List (Int × Int)) {t : Int × Int} (ht : t ∈ merged l) : passes l t.1 l.length = t.2 := by
  have hn := (merged_is l).1
  have hcov := (merged_is l).2
  have ht1 := hn.1 t ht
  have hup : ∀ s ∈ l, s.1 < s.2 → s.1 ≤ t.2 → t.1 ≤ s.1 → s.2 ≤ t.2 := by
    intro s hs h1 h2 h3
    rcases Int.lt_or_le t.2 s.2 with h4 | h4
    · exfalso
      obtain ⟨u, hu, h5, h6⟩ := (hcov t.2).2 ⟨s, hs, h2, h4⟩
      rcases norm_apart hn ht hu with e | e | e
      · subst e; omega
      · omega
      · have := hn.1 u hu; omega
    · exact h4
  have hle : ∀ k, passes l t.1 k ≤ t.2 := by
    intro k
    induction k with
    | zero => simp only [passes]; omega
    | succ k ih => exact pass_le t.1 t.2 l _ hup ih
  have hge : ∀ k, t.1 ≤ passes l t.1 k := by
    intro k
    induction k with
    | zero => simp only [passes]; omega
    | succ k ih => exact Int.le_trans ih (pass_ge _ _ _)
  have hnext : ∀ k, passes l t.1 k < t.2 → ∃ s ∈ l, s.1 ≤ passes l t.1 k ∧ passes l t.1 k < s.2 ∧ s.2 ≤ passes l t.1 (k + 1) := by
    intro k hk
    obtain ⟨s, hs, h1, h2⟩ := (hcov (passes l t.1 k)).1 ⟨t, ht, hge k, hk⟩
    have hb : t.1 ≤ s.1 := by
      rcases Int.lt_or_le s.1 t.1 with h | h
      · exact absurd ⟨s, hs, by omega, by have := hge k; omega⟩ (ahead_free ht)
      · exact h
    exact ⟨s, hs, h1, h2, pass_hit t.1 l _ s hs (by omega) h1 hb⟩
  have hcount : ∀ k, passes l t.1 k = t.2 ∨ k ≤ l.countP (fun s => decide (s.2 ≤ passes l t.1 k)) := by
    intro k
    induction k with
    | zero => right; omega
    | succ k ih =>
      have hstep := pass_ge t.1 l (passes l t.1 k)
      rcases ih with ih | ih
      · left
        have h1 := hle (k + 1)
        have h2 : passes l t.1 (k + 1) = pass l t.1 (passes l t.1 k) := rfl
        omega
      · by_cases hlt : passes l t.1 k < t.2
        · right
          obtain ⟨s, hs, h1, h2, h3⟩ := hnext k hlt
          have hmono : ∀ u : Int × Int, decide (u.2 ≤ passes l t.1 k) = true → decide (u.2 ≤ passes l t.1 (k + 1)) = true := by
            intro u hu
            simp only [decide_eq_true_eq] at *
            have h4 : passes l t.1 (k + 1) = pass l t.1 (passes l t.1 k) := rfl
            omega
          have : l.countP (fun s => decide (s.2 ≤ passes l t.1 k)) < l.countP (fun s => decide (s.2 ≤ passes l t.1 (k + 1))) :=
            countP_lt_of_new hs (fun u _ => hmono u) (by simp; omega) (by simp; omega)
          omega
        · left
          have h1 := hle (k + 1)
          have h2 : passes l t.1 (k + 1) = pass l t.1 (passes l t.1 k) := rfl
          have := hle k
          omega
  rcases hcount l.length with h | h
  · exact h
  · rcases Int.lt_or_le (passes l t.1 l.length) t.2 with h1 | h1
    · exfalso
      obtain ⟨s, hs, h2, h3, _⟩ := hnext l.length h1
      have h4 : l.countP (fun s => decide (s.2 ≤ passes l t.1 l.length)) = l.length := Nat.le_antisymm List.countP_le_length h
      have h5 := List.countP_eq_length.1 h4 s hs
      simp at h5
      omega
    · have := hle l.length
      omega
theorem spec_merged (l : List (Int × Int)) : (uni (begins l)).map (fun b => (b, passes l b l.length)) = merged l := by
  rw [uni_begins, List.map_map]
  conv => rhs; rw [← List.map_id (merged l)]
  apply List.map_congr_left
  intro t ht
  show (t.1, passes l t.1 l.length) = t
  rw [passes_end l ht]

end Go.Proofs.Ytpkdjdofbedncaa

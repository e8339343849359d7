/-
  What is proved here: plain facts on strictly ascending lists: the different numbers of a list in ascending order, and what two such lists with the same numbers are; no condition.
-/
import Derived.Test.YtiioojnoggcnmaaAscPlain
namespace Go.Proofs.Ytiioojnoggcnmaa
set_option linter.unusedVariables false

def SAsc (l : List Int) : Prop := l.Pairwise (· < ·)
theorem SAsc.asc {l : List Int} (h : SAsc l) : Asc l := h.imp (fun {a b} hab => Int.le_of_lt hab)
theorem SAsc.nodup {l : List Int} (h : SAsc l) : l.Nodup := h.imp (fun {a b} hab e => by omega)
theorem sasc_of {l : List Int} (h : Asc l) (hn : l.Nodup) : SAsc l := by
  have h2 := h.and hn
  exact h2.imp (fun {a b} hab => by have := hab.1; have := hab.2; omega)
theorem sasc_ext {a b : List Int} (ha : SAsc a) (hb : SAsc b) (h : ∀ v, v ∈ a ↔ v ∈ b) : a = b :=
  asc_unique ha.asc hb.asc ((List.perm_ext_iff_of_nodup ha.nodup hb.nodup).2 h)
theorem SAsc.filter {l : List Int} (h : SAsc l) (p : Int → Bool) : SAsc (l.filter p) := List.Pairwise.sublist List.filter_sublist h

/-- One step of the loop that leaves equal neighbours out. -/
def sq (out : List Int) (v : Int) : List Int := if out.getLast? = some v then out else out ++ [v]
def uni (l : List Int) : List Int := (asc l).foldl sq []

theorem sq_facts (l : List Int) : Asc l → SAsc (l.foldl sq []) ∧ (∀ v, v ∈ l.foldl sq [] ↔ v ∈ l) ∧ (l.foldl sq []).getLast? = l.getLast? := by
  suffices h : ∀ n (l : List Int), l.length = n → Asc l → SAsc (l.foldl sq []) ∧ (∀ v, v ∈ l.foldl sq [] ↔ v ∈ l) ∧ (l.foldl sq []).getLast? = l.getLast? from h _ l rfl
  intro n
  induction n with
  | zero =>
    intro l hl _
    rw [List.eq_nil_of_length_eq_zero hl]
    exact ⟨List.Pairwise.nil, fun v => Iff.rfl, rfl⟩
  | succ n ih =>
    intro l hl ha
    have hne : l ≠ [] := by intro e; rw [e] at hl; simp at hl
    obtain ⟨r, x, rfl⟩ : ∃ r x, l = r ++ [x] := ⟨_, _, (List.dropLast_concat_getLast hne).symm⟩
    unfold Asc at ha
    rw [List.pairwise_append] at ha
    obtain ⟨h1, h2, h3⟩ := ih r (by simpa using hl) ha.1
    have hx : ∀ y ∈ r, y ≤ x := fun y hy => ha.2.2 y hy x (by simp)
    rw [List.foldl_append]
    simp only [List.foldl_cons, List.foldl_nil]
    unfold sq
    by_cases hg : (r.foldl sq []).getLast? = some x
    · unfold sq at hg h1 h2 h3
      rw [if_pos hg]
      refine ⟨h1, fun v => ?_, ?_⟩
      · rw [h2 v]
        have hxr : x ∈ r := by rw [h3] at hg; exact List.mem_of_getLast? hg
        simp only [List.mem_append, List.mem_singleton]
        constructor
        · exact .inl
        · rintro (h | rfl)
          · exact h
          · exact hxr
      · rw [hg]; simp
    · unfold sq at hg h1 h2 h3
      rw [if_neg hg]
      refine ⟨?_, fun v => ?_, by simp⟩
      · unfold SAsc
        rw [List.pairwise_append]
        refine ⟨h1, by simp, fun a haa b hb => ?_⟩
        simp at hb
        subst hb
        have hle := hx a ((h2 a).1 haa)
        rcases Int.lt_or_eq_of_le hle with h | h
        · exact h
        · exfalso
          subst h
          -- the last one is not less than it
          have hne2 : r ≠ [] := by intro e; rw [e] at haa; simp at haa
          have h4 : r.getLast? = some (r.getLast hne2) := List.getLast?_eq_some_getLast hne2
          have h5 : r.getLast hne2 ≤ a := hx _ (List.getLast_mem hne2)
          have h6 : a ≤ r.getLast hne2 := by
            have har := (h2 a).1 haa
            rw [← List.dropLast_concat_getLast hne2] at har
            rw [List.mem_append] at har
            rcases har with h7 | h7
            · have h8 := ha.1
              rw [← List.dropLast_concat_getLast hne2, List.pairwise_append] at h8
              exact h8.2.2 a h7 _ (by simp)
            · simp at h7; omega
          apply hg
          rw [h3, h4]
          congr 1
          omega
      · simp only [List.mem_append, h2 v]

theorem uni_sasc (l : List Int) : SAsc (uni l) := (sq_facts _ (asc_asc l)).1
theorem mem_uni {l : List Int} {v : Int} : v ∈ uni l ↔ v ∈ l := by
  unfold uni
  rw [(sq_facts _ (asc_asc l)).2.1 v, (asc_perm l).mem_iff]
theorem uni_eq {l r : List Int} (h : SAsc r) (hm : ∀ v, v ∈ r ↔ v ∈ l) : r = uni l := sasc_ext h (uni_sasc l) (fun v => by rw [hm v, mem_uni])
theorem sq_len (l acc : List Int) : (l.foldl sq acc).length ≤ acc.length + l.length := by
  induction l generalizing acc with
  | nil => simp
  | cons x r ih =>
    simp only [List.foldl_cons, List.length_cons]
    have := ih (sq acc x)
    have h2 : (sq acc x).length ≤ acc.length + 1 := by unfold sq; split <;> simp
    omega
theorem uni_len (l : List Int) : (uni l).length ≤ l.length := by
  have := sq_len (asc l) []
  rw [asc_len] at this
  simpa [uni] using this

/-- One step of the loop that leaves numbers out that are there. -/
def nw (all : List Int) (v : Int) : List Int := if v ∈ all then all else all ++ [v]
theorem nw_facts (l acc : List Int) (hn : acc.Nodup) : (l.foldl nw acc).Nodup ∧ ∀ v, v ∈ l.foldl nw acc ↔ v ∈ acc ∨ v ∈ l := by
  induction l generalizing acc with
  | nil => simp [hn]
  | cons x r ih =>
    simp only [List.foldl_cons]
    have h1 : (nw acc x).Nodup := by
      unfold nw
      split
      · exact hn
      · rename_i hx
        rw [List.nodup_append]
        refine ⟨hn, by simp, ?_⟩
        intro a ha b hb
        simp at hb
        subst hb
        intro e
        subst e
        exact hx ha
    obtain ⟨h2, h3⟩ := ih _ h1
    refine ⟨h2, fun v => ?_⟩
    rw [h3 v]
    unfold nw
    split
    · rename_i hx
      constructor
      · rintro (h | h)
        · exact .inl h
        · exact .inr (by simp [h])
      · rintro (h | h)
        · exact .inl h
        · rcases List.mem_cons.1 h with rfl | h
          · exact .inl hx
          · exact .inr h
    · simp only [List.mem_append, List.mem_cons]
      constructor
      · rintro ((h | h) | h)
        · exact .inl h
        · exact .inr (.inl (by simpa using h))
        · exact .inr (.inr h)
      · rintro (h | h | h)
        · exact .inl (.inl h)
        · exact .inl (.inr (by simp [h]))
        · exact .inr h
theorem nw_uni (l : List Int) : asc (l.foldl nw []) = uni l := by
  obtain ⟨h1, h2⟩ := nw_facts l [] List.nodup_nil
  refine uni_eq (sasc_of (asc_asc _) ((asc_perm _).nodup_iff.2 h1)) (fun v => ?_)
  rw [(asc_perm _).mem_iff, h2 v]
  simp

/-- Both, one alone, ranks. -/
def meet (a b : List Int) : List Int := (uni a).filter (fun v => decide (v ∈ b))
def minus (a b : List Int) : List Int := (uni a).filter (fun v => !decide (v ∈ b))
def rank (x : List Int) (v : Int) : Nat := (uni x).countP (fun y => decide (y < v))
theorem meet_sasc (a b : List Int) : SAsc (meet a b) := (uni_sasc a).filter _
theorem minus_sasc (a b : List Int) : SAsc (minus a b) := (uni_sasc a).filter _
theorem mem_meet {a b : List Int} {v : Int} : v ∈ meet a b ↔ v ∈ a ∧ v ∈ b := by simp [meet, mem_uni]
theorem mem_minus {a b : List Int} {v : Int} : v ∈ minus a b ↔ v ∈ a ∧ ¬ v ∈ b := by simp [minus, mem_uni]
theorem meet_swap (a b : List Int) : meet a b = meet b a := sasc_ext (meet_sasc _ _) (meet_sasc _ _) (fun v => by rw [mem_meet, mem_meet]; exact And.comm)
theorem meet_minus_len (a b : List Int) : (meet a b).length + (minus a b).length = (uni a).length := by
  unfold meet minus
  induction uni a with
  | nil => rfl
  | cons x r ih =>
    simp only [List.filter_cons]
    by_cases h : x ∈ b
    · simp [h] at ih ⊢; omega
    · simp [h] at ih ⊢; omega
theorem uni_app_len (a b : List Int) : (uni (a ++ b)).length = (uni a).length + (minus b a).length := by
  have hp : (uni (a ++ b)).Perm (uni a ++ minus b a) := by
    refine (List.perm_ext_iff_of_nodup (uni_sasc _).nodup ?_).2 (fun v => ?_)
    · rw [List.nodup_append]
      refine ⟨(uni_sasc a).nodup, (minus_sasc b a).nodup, fun x hx y hy e => ?_⟩
      subst e
      exact (mem_minus.1 hy).2 (mem_uni.1 hx)
    · rw [mem_uni, List.mem_append, List.mem_append, mem_uni, mem_minus]
      constructor
      · rintro (h | h)
        · exact .inl h
        · by_cases ha : v ∈ a
          · exact .inl ha
          · exact .inr ⟨h, ha⟩
      · rintro (h | h)
        · exact .inl h
        · exact .inr h.1
  rw [hp.length_eq, List.length_append]
theorem sets_count (a b : List Int) : (uni (a ++ b)).length + (meet a b).length = (uni a).length + (uni b).length := by
  have h1 := uni_app_len a b
  have h2 := meet_minus_len b a
  rw [meet_swap b a] at h2
  omega

end Go.Proofs.Ytiioojnoggcnmaa

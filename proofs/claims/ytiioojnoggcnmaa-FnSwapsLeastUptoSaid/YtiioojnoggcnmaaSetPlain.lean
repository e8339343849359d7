/-
  What is proved here: plain facts on lists of integers taken as sets (all, both, one alone), on ranks and on turned lists; no condition.
-/
import Derived.Test.YtiioojnoggcnmaaUniPlain
namespace Go.Proofs.Ytiioojnoggcnmaa
set_option linter.unusedVariables false

theorem meet_len (a b : List Int) : (meet a b).length ≤ a.length := Nat.le_trans (List.length_filter_le _ _) (uni_len a)
theorem minus_len (a b : List Int) : (minus a b).length ≤ a.length := Nat.le_trans (List.length_filter_le _ _) (uni_len a)

theorem set_swap1 (a b : List Int) : uni (b ++ a) = uni (a ++ b) := sasc_ext (uni_sasc _) (uni_sasc _) (fun v => by simp only [mem_uni, List.mem_append]; exact Or.comm)
theorem set_swap2 (a b : List Int) : meet b a = meet a b := sasc_ext (meet_sasc _ _) (meet_sasc _ _) (fun v => by simp only [mem_meet]; exact And.comm)
theorem set_swap3 (a b c : List Int) : uni (a ++ uni (b ++ c)) = uni (uni (a ++ b) ++ c) := sasc_ext (uni_sasc _) (uni_sasc _) (fun v => by simp only [mem_uni, List.mem_append]; exact or_assoc.symm)
theorem set_spread1 (a b c : List Int) : uni (meet a b ++ meet a c) = meet a (uni (b ++ c)) := sasc_ext (uni_sasc _) (meet_sasc _ _) (fun v => by simp only [mem_uni, mem_meet, List.mem_append]; exact and_or_left.symm)
theorem set_spread2 (a b c : List Int) : meet (uni (a ++ b)) (uni (a ++ c)) = uni (a ++ meet b c) := sasc_ext (meet_sasc _ _) (uni_sasc _) (fun v => by simp only [mem_uni, mem_meet, List.mem_append]; exact or_and_left.symm)
theorem set_morgan1 (a b c : List Int) : meet (minus a b) (minus a c) = minus a (uni (b ++ c)) := sasc_ext (meet_sasc _ _) (minus_sasc _ _) (fun v => by
  simp only [mem_uni, mem_meet, mem_minus, List.mem_append, not_or]
  exact ⟨fun ⟨⟨h1, h2⟩, _, h3⟩ => ⟨h1, h2, h3⟩, fun ⟨h1, h2, h3⟩ => ⟨⟨h1, h2⟩, h1, h3⟩⟩)
theorem set_morgan2 (a b c : List Int) : uni (minus a b ++ minus a c) = minus a (meet b c) := sasc_ext (uni_sasc _) (minus_sasc _ _) (fun v => by
  simp only [mem_uni, mem_meet, mem_minus, List.mem_append]
  by_cases h1 : v ∈ b <;> by_cases h2 : v ∈ c <;> simp [h1, h2])
theorem set_apart1 (a b : List Int) : uni (meet a b ++ minus a b) = uni (a ++ []) := sasc_ext (uni_sasc _) (uni_sasc _) (fun v => by
  simp only [mem_uni, mem_meet, mem_minus, List.mem_append, List.not_mem_nil, or_false]
  by_cases h1 : v ∈ b <;> simp [h1])
theorem set_apart2 (a b : List Int) : meet (meet a b) (minus a b) = [] := by
  apply List.eq_nil_iff_forall_not_mem.2
  intro v hv
  rw [mem_meet, mem_meet, mem_minus] at hv
  exact hv.2.2 hv.1.2
theorem set_apart3 (a b : List Int) : (meet a b).length + (minus a b).length = (uni (a ++ [])).length := by
  rw [List.append_nil]
  unfold meet minus
  induction uni a with
  | nil => rfl
  | cons x r ih =>
    simp only [List.filter_cons]
    by_cases h : x ∈ b <;> simp [h] <;> omega
theorem set_count (a b : List Int) : (uni (a ++ b)).length + (meet a b).length = (uni (a ++ [])).length + (uni (b ++ [])).length := by
  have h1 := set_apart3 b a
  have h2 := congrArg List.length (set_swap2 a b)
  have h3 : (uni (a ++ b)).Perm (uni a ++ minus b a) := by
    refine (List.perm_ext_iff_of_nodup (uni_sasc _).nodup ?_).2 (fun v => ?_)
    · rw [List.nodup_append]
      refine ⟨(uni_sasc a).nodup, (minus_sasc b a).nodup, fun x hx y hy e => ?_⟩
      subst e
      exact (mem_minus.1 hy).2 (mem_uni.1 hx)
    · simp only [mem_uni, mem_minus, List.mem_append]
      by_cases h : v ∈ a <;> simp [h]
  have h4 := h3.length_eq
  rw [List.length_append] at h4
  rw [List.append_nil a]
  omega

def ranks (x : List Int) : List Int := x.map (fun v => (rank x v : Int))
theorem ranks_len (x : List Int) : (ranks x).length = x.length := by simp [ranks]
theorem ranks_get (x : List Int) (i : Nat) (v : Int) (h : x[i]? = some v) : (ranks x)[i]? = some (rank x v : Int) := by simp [ranks, h]
theorem rank_le (x : List Int) (v : Int) : rank x v ≤ (uni x).length := List.countP_le_length

theorem countP_lt_at {u : List Int} (h : SAsc u) {i : Nat} {v : Int} (hi : u[i]? = some v) : u.countP (fun y => decide (y < v)) = i := by
  obtain ⟨hil, rfl⟩ := List.getElem?_eq_some_iff.1 hi
  have h1 : u.countP (fun y => decide (y < u[i])) = (u.take i).countP (fun y => decide (y < u[i])) + (u.drop i).countP (fun y => decide (y < u[i])) := by rw [← List.countP_append, List.take_append_drop]
  have h2 : (u.take i).countP (fun y => decide (y < u[i])) = (u.take i).length := List.countP_eq_length.2 (fun y hy => by
    obtain ⟨j, hj, hyj⟩ := mem_take_get hy
    obtain ⟨hjl, rfl⟩ := List.getElem?_eq_some_iff.1 hyj
    simpa using List.pairwise_iff_getElem.1 h j i hjl hil hj)
  have h3 : (u.drop i).countP (fun y => decide (y < u[i])) = 0 := List.countP_eq_zero.2 (fun y hy => by
    obtain ⟨j, hj, hyj⟩ := mem_drop_get hy
    have := asc_get h.asc hj hi hyj
    simpa using this)
  rw [h1, h2, h3, List.length_take]
  omega

/-- A number of the list has the rank that is its index in the list of all. -/
theorem rank_at {x : List Int} {v : Int} (h : v ∈ x) : (uni x)[rank x v]? = some v := by
  obtain ⟨i, hi, e⟩ := List.mem_iff_getElem.1 (mem_uni.2 h)
  have h2 : (uni x)[i]? = some v := by rw [List.getElem?_eq_getElem hi, e]
  have := countP_lt_at (uni_sasc x) h2
  unfold rank
  rw [this]
  exact h2
theorem rank_lt_len {x : List Int} {v : Int} (h : v ∈ x) : rank x v < (uni x).length := (List.getElem?_eq_some_iff.1 (rank_at h)).1
theorem rank_lt {x : List Int} {v u : Int} (hv : v ∈ x) (hu : u ∈ x) : (rank x v : Int) < (rank x u : Int) ↔ v < u := by
  have a := rank_at hv
  have b := rank_at hu
  have c : ∀ {p q : Int}, p ∈ x → q ∈ x → rank x p ≤ rank x q → p ≤ q := fun hp hq h => asc_get (uni_sasc x).asc h (rank_at hp) (rank_at hq)
  constructor
  · intro h
    have h1 := c hv hu (by omega)
    rcases Int.lt_or_eq_of_le h1 with h2 | h2
    · exact h2
    · subst h2; omega
  · intro h
    have h1 : ¬ rank x u ≤ rank x v := fun h2 => by have := c hu hv h2; omega
    omega

/-- 0, 1, 2 .. -/
def upTo (n : Nat) : List Int := (List.range n).map (fun (i : Nat) => (i : Int))
theorem upTo_len (n : Nat) : (upTo n).length = n := by simp [upTo]
theorem upTo_get (n i : Nat) (h : i < n) : (upTo n)[i]? = some (i : Int) := by simp [upTo, h]
theorem upTo_sasc (n : Nat) : SAsc (upTo n) := by
  unfold SAsc upTo
  rw [List.pairwise_map]
  exact List.pairwise_lt_range.imp (fun h => by omega)
theorem mem_upTo {n : Nat} {v : Int} : v ∈ upTo n ↔ 0 ≤ v ∧ v < n := by
  simp only [upTo, List.mem_map, List.mem_range]
  constructor
  · rintro ⟨a, h, rfl⟩; omega
  · rintro ⟨h1, h2⟩; exact ⟨v.toNat, by omega, by omega⟩
theorem uni_ranks (x : List Int) : uni (ranks x) = upTo (uni x).length := by
  refine (uni_eq (upTo_sasc _) (fun v => ?_)).symm
  rw [mem_upTo]
  constructor
  · rintro ⟨h1, h2⟩
    have hl : v.toNat < (uni x).length := by omega
    have hm : (uni x)[v.toNat] ∈ x := mem_uni.1 (List.getElem_mem hl)
    have h3 : rank x (uni x)[v.toNat] = v.toNat := countP_lt_at (uni_sasc x) (List.getElem?_eq_getElem hl)
    unfold ranks
    rw [List.mem_map]
    exact ⟨_, hm, by rw [h3]; omega⟩
  · intro h
    unfold ranks at h
    rw [List.mem_map] at h
    obtain ⟨a, ha, rfl⟩ := h
    have := rank_lt_len ha
    omega
theorem ranks_ranks (x : List Int) : ranks (ranks x) = ranks x := by
  apply List.ext_getElem?
  intro i
  cases h : (ranks x)[i]? with
  | none => rw [List.getElem?_eq_none_iff] at h ⊢; rw [ranks_len]; exact h
  | some v =>
    rw [ranks_get _ _ _ h]
    congr 1
    have hv : v ∈ ranks x := List.mem_of_getElem? h
    unfold ranks at hv
    rw [List.mem_map] at hv
    obtain ⟨a, ha, rfl⟩ := hv
    have hl := rank_lt_len ha
    show (((uni (ranks x)).countP (fun y => decide (y < (rank x a : Int))) : Nat) : Int) = (rank x a : Int)
    rw [uni_ranks, countP_lt_at (upTo_sasc _) (upTo_get _ _ hl)]

/-- The numbers in the opposite order of size. -/
def opp (x : List Int) : List Int := x.map (fun v => -1 - v)
theorem opp_len (x : List Int) : (opp x).length = x.length := by simp [opp]
theorem opp_get (x : List Int) (i : Nat) (v : Int) (h : x[i]? = some v) : (opp x)[i]? = some (-1 - v) := by simp [opp, h]
theorem uni_opp (x : List Int) : (uni (opp x)).Perm (opp (uni x)) := by
  refine (List.perm_ext_iff_of_nodup (uni_sasc _).nodup ?_).2 (fun v => ?_)
  · unfold opp
    unfold List.Nodup
    rw [List.pairwise_map]
    exact (uni_sasc x).nodup.imp (fun h e => h (by omega))
  · rw [mem_uni]
    unfold opp
    simp only [List.mem_map, mem_uni]
theorem rank_opp {x : List Int} {v : Int} (h : v ∈ x) : rank x v + rank (opp x) (-1 - v) + 1 = (uni x).length := by
  have h1 : rank (opp x) (-1 - v) = (uni x).countP (fun y => decide (v < y)) := by
    unfold rank
    rw [(uni_opp x).countP_eq]
    unfold opp
    rw [List.countP_map]
    congr 1
    funext y
    simp only [Function.comp]
    by_cases hy : v < y
    · rw [decide_eq_true hy]; exact decide_eq_true (by omega)
    · rw [decide_eq_false hy]; exact decide_eq_false (by omega)
  have h2 : (uni x).countP (fun y => decide (y < v)) + (uni x).countP (fun y => decide (v < y)) + (uni x).countP (fun y => decide (y = v)) = (uni x).length := by
    induction uni x with
    | nil => rfl
    | cons y r ih =>
      simp only [List.countP_cons, List.length_cons]
      rcases Int.lt_trichotomy y v with a | a | a
      · have b : ¬ v < y := by omega
        have c : ¬ y = v := by omega
        simp [a, b, c]; omega
      · subst a; simp; omega
      · have b : ¬ y < v := by omega
        have c : ¬ y = v := by omega
        simp [a, b, c]; omega
  have h3 : (uni x).countP (fun y => decide (y = v)) = 1 := by
    have h4 : (uni x).count v = 1 := (uni_sasc x).nodup.count (a := v) |>.trans (by rw [if_pos (mem_uni.2 h)])
    rw [← h4]
    unfold List.count
    congr 1
  rw [h1]
  unfold rank
  omega

/-- The different numbers from an index on, around the end. -/
def turn (x : List Int) (k : Int) : List Int := (uni x).drop (k % ((uni x).length : Int)).toNat ++ (uni x).take (k % ((uni x).length : Int)).toNat
theorem turn_len (x : List Int) (k : Int) : (turn x k).length = (uni x).length := by
  unfold turn
  rw [List.length_append, List.length_drop, List.length_take]
  omega
theorem turn_perm (x : List Int) (k : Int) : (turn x k).Perm (uni x) := by
  unfold turn
  have := List.perm_append_comm (l₁ := (uni x).drop (k % ((uni x).length : Int)).toNat) (l₂ := (uni x).take (k % ((uni x).length : Int)).toNat)
  rwa [List.take_append_drop] at this

end Go.Proofs.Ytiioojnoggcnmaa

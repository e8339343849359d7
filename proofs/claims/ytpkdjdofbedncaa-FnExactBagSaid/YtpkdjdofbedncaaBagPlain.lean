/-
  What is proved here: plain facts on a bag of numbers: what an order does to an ascending list; no condition.
-/
import Derived.Test.YtpkdjdofbedncaaSetPlain
namespace Go.Proofs.Ytpkdjdofbedncaa
set_option linter.unusedVariables false

/-- How many are less. -/
def lessN (bag : List Int) (v : Int) : Nat := bag.countP (fun y => decide (y < v))
/-- One order: what has been told and the bag. -/
def bagStep (s : List Int × List Int) (o : Int × Int) : List Int × List Int :=
  if o.1 % 4 = 0 then (s.1 ++ [(lessN s.2 o.2 : Int)], s.2.take (lessN s.2 o.2) ++ [o.2] ++ s.2.drop (lessN s.2 o.2))
  else if o.1 % 4 = 1 then (if o.2 ∈ s.2 then (s.1 ++ [1], s.2.take (lessN s.2 o.2) ++ s.2.drop (lessN s.2 o.2 + 1)) else (s.1 ++ [0], s.2))
  else if o.1 % 4 = 2 then (s.1 ++ [(lessN s.2 o.2 : Int)], s.2)
  else (s.1 ++ [s.2.getD (o.2 % (s.2.length : Int)).toNat 0], s.2)
def bagRun (s : List Int × List Int) (os : List (Int × Int)) : List Int × List Int := os.foldl bagStep s

theorem lessN_le (bag : List Int) (v : Int) : lessN bag v ≤ bag.length := List.countP_le_length
theorem lessN_lt {bag : List Int} {v : Int} (h : v ∈ bag) : lessN bag v < bag.length := by
  unfold lessN
  rcases Nat.lt_or_ge (bag.countP (fun y => decide (y < v))) bag.length with h1 | h1
  · exact h1
  · have h2 := List.countP_eq_length.1 (Nat.le_antisymm List.countP_le_length h1) v h
    simp at h2
/-- In an ascending list the less ones stand first. -/
theorem lessN_ahead {bag : List Int} (ha : Asc bag) (v : Int) : (∀ y ∈ bag.take (lessN bag v), y < v) ∧ (∀ y ∈ bag.drop (lessN bag v), v ≤ y) := by
  induction bag with
  | nil => simp [lessN]
  | cons x r ih =>
    unfold Asc at ha
    rw [List.pairwise_cons] at ha
    by_cases hx : x < v
    · have e : lessN (x :: r) v = lessN r v + 1 := by simp [lessN, hx]
      rw [e]
      obtain ⟨h1, h2⟩ := ih ha.2
      refine ⟨fun y hy => ?_, by simpa using h2⟩
      simp only [List.take_succ_cons, List.mem_cons] at hy
      rcases hy with rfl | hy
      · exact hx
      · exact h1 y hy
    · have e : lessN (x :: r) v = 0 := by
        unfold lessN
        rw [List.countP_eq_zero]
        intro y hy
        rw [List.mem_cons] at hy
        rcases hy with rfl | hy
        · simpa using hx
        · have := ha.1 y hy
          simp
          omega
      rw [e]
      refine ⟨by simp, fun y hy => ?_⟩
      simp only [List.drop_zero, List.mem_cons] at hy
      rcases hy with rfl | hy
      · omega
      · have := ha.1 y hy
        omega
theorem asc_ins {bag : List Int} (ha : Asc bag) (v : Int) : Asc (bag.take (lessN bag v) ++ [v] ++ bag.drop (lessN bag v)) :=
  asc_insert ha _ v (fun y hy => Int.le_of_lt ((lessN_ahead ha v).1 y hy)) (lessN_ahead ha v).2
theorem asc_ins_eq {bag : List Int} (ha : Asc bag) (v : Int) : bag.take (lessN bag v) ++ [v] ++ bag.drop (lessN bag v) = asc (bag ++ [v]) := asc_eq (asc_ins ha v) (perm_insert bag _ v)
theorem asc_del {bag : List Int} (ha : Asc bag) (i : Nat) : Asc (bag.take i ++ bag.drop (i + 1)) := by
  rw [← List.eraseIdx_eq_take_drop_succ]
  exact List.Pairwise.sublist (List.eraseIdx_sublist _ _) ha
/-- The first one that is not less is the number, if it is there. -/
theorem lessN_at {bag : List Int} (ha : Asc bag) {v : Int} (h : v ∈ bag) : bag[lessN bag v]? = some v := by
  obtain ⟨h1, h2⟩ := lessN_ahead ha v
  have hl := lessN_lt h
  rw [List.getElem?_eq_getElem hl]
  congr 1
  have h3 : bag[lessN bag v] ∈ bag.drop (lessN bag v) := List.mem_iff_getElem?.2 ⟨0, by rw [List.getElem?_drop, Nat.add_zero]; exact List.getElem?_eq_getElem hl⟩
  have h4 := h2 _ h3
  have h5 : v ∈ bag.drop (lessN bag v) := by
    rw [← List.take_append_drop (lessN bag v) bag, List.mem_append] at h
    rcases h with h | h
    · have := h1 v h; omega
    · exact h
  rw [List.drop_eq_getElem_cons hl, List.mem_cons] at h5
  rcases h5 with h5 | h5
  · exact h5.symm
  · have h6 : Asc (bag.drop (lessN bag v)) := List.Pairwise.sublist (List.drop_sublist _ _) ha
    rw [List.drop_eq_getElem_cons hl] at h6
    unfold Asc at h6
    rw [List.pairwise_cons] at h6
    have := h6.1 v h5
    omega
theorem perm_del {bag : List Int} (ha : Asc bag) {v : Int} (h : v ∈ bag) : (v :: (bag.take (lessN bag v) ++ bag.drop (lessN bag v + 1))).Perm bag := by
  have hl := lessN_lt h
  have h1 := lessN_at ha h
  rw [List.getElem?_eq_getElem hl] at h1
  injection h1 with h1
  have e : bag = bag.take (lessN bag v) ++ v :: bag.drop (lessN bag v + 1) := by
    conv => lhs; rw [← List.take_append_drop (lessN bag v) bag, List.drop_eq_getElem_cons hl, h1]
  conv => rhs; rw [e]
  exact List.perm_middle.symm

theorem bagStep_asc {s : List Int × List Int} (h : Asc s.2) (o : Int × Int) : Asc (bagStep s o).2 := by
  unfold bagStep
  split
  · exact asc_ins h _
  · split
    · split
      · exact asc_del h _
      · exact h
    · split <;> exact h
theorem bagRun_asc {s : List Int × List Int} (h : Asc s.2) (os : List (Int × Int)) : Asc (bagRun s os).2 := by
  unfold bagRun
  induction os generalizing s with
  | nil => exact h
  | cons o r ih => exact ih (bagStep_asc h o)
theorem bagStep_len (s : List Int × List Int) (o : Int × Int) : (bagStep s o).1.length = s.1.length + 1 ∧ (bagStep s o).2.length ≤ s.2.length + 1 := by
  unfold bagStep
  split
  · simp; omega
  · split
    · split
      · simp; omega
      · simp
    · split <;> simp
theorem bagRun_len (s : List Int × List Int) (os : List (Int × Int)) : (bagRun s os).1.length = s.1.length + os.length ∧ (bagRun s os).2.length ≤ s.2.length + os.length := by
  unfold bagRun
  induction os generalizing s with
  | nil => simp
  | cons o r ih =>
    have h1 := bagStep_len s o
    have h2 := ih (bagStep s o)
    simp only [List.foldl_cons, List.length_cons]
    omega
theorem bagRun_take {os : List (Int × Int)} {s : List Int × List Int} {j : Nat} {o : Int × Int} (h : os[j]? = some o) : bagRun s (os.take (j + 1)) = bagStep (bagRun s (os.take j)) o := by
  unfold bagRun
  rw [List.take_add_one, h, List.foldl_append]
  rfl
theorem bagRun_append (s : List Int × List Int) (a b : List (Int × Int)) : bagRun s (a ++ b) = bagRun (bagRun s a) b := by unfold bagRun; exact List.foldl_append
/-- What was told ahead stays ahead. -/
theorem bagStep_told (t b : List Int) (o : Int × Int) : bagStep (t, b) o = (t ++ (bagStep ([], b) o).1, (bagStep ([], b) o).2) := by
  unfold bagStep
  split
  · simp
  · split
    · split <;> simp
    · split <;> simp
theorem bagRun_told (t b : List Int) (os : List (Int × Int)) : bagRun (t, b) os = (t ++ (bagRun ([], b) os).1, (bagRun ([], b) os).2) := by
  unfold bagRun
  induction os generalizing t b with
  | nil => simp
  | cons o r ih =>
    simp only [List.foldl_cons]
    rw [bagStep_told t b o, ih, ih (bagStep ([], b) o).1 (bagStep ([], b) o).2]
    simp
theorem bagStep0 {s : List Int × List Int} {o : Int × Int} (h : o.1 % 4 = 0) : bagStep s o = (s.1 ++ [(lessN s.2 o.2 : Int)], s.2.take (lessN s.2 o.2) ++ [o.2] ++ s.2.drop (lessN s.2 o.2)) := by unfold bagStep; rw [if_pos h]
theorem bagStep1y {s : List Int × List Int} {o : Int × Int} (h : o.1 % 4 = 1) (hm : o.2 ∈ s.2) : bagStep s o = (s.1 ++ [1], s.2.take (lessN s.2 o.2) ++ s.2.drop (lessN s.2 o.2 + 1)) := by unfold bagStep; rw [if_neg (by omega), if_pos h, if_pos hm]
theorem bagStep1n {s : List Int × List Int} {o : Int × Int} (h : o.1 % 4 = 1) (hm : ¬ o.2 ∈ s.2) : bagStep s o = (s.1 ++ [0], s.2) := by unfold bagStep; rw [if_neg (by omega), if_pos h, if_neg hm]
theorem bagStep2 {s : List Int × List Int} {o : Int × Int} (h : o.1 % 4 = 2) : bagStep s o = (s.1 ++ [(lessN s.2 o.2 : Int)], s.2) := by unfold bagStep; rw [if_neg (by omega), if_neg (by omega), if_pos h]
theorem bagStep3 {s : List Int × List Int} {o : Int × Int} (h : o.1 % 4 = 3) : bagStep s o = (s.1 ++ [s.2.getD (o.2 % (s.2.length : Int)).toNat 0], s.2) := by unfold bagStep; rw [if_neg (by omega), if_neg (by omega), if_neg (by omega)]

end Go.Proofs.Ytpkdjdofbedncaa

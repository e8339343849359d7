/-
  What is proved here: plain facts on turned lists: where they begin, and that turning on from there gives the ascending list; no condition.
-/
import Derived.Test.YtgnjncadecelhaaSetPlain
namespace Go.Proofs.Ytgnjncadecelhaa
set_option linter.unusedVariables false

theorem getD_append_lt {a b : List Int} {i : Nat} (h : i < a.length) : (a ++ b).getD i 0 = a.getD i 0 := by
  rw [List.getD_eq_getElem?_getD, List.getElem?_append_left h, ← List.getD_eq_getElem?_getD]
theorem getD_append_ge {a b : List Int} {i : Nat} (h : a.length ≤ i) : (a ++ b).getD i 0 = b.getD (i - a.length) 0 := by
  rw [List.getD_eq_getElem?_getD, List.getElem?_append_right h, ← List.getD_eq_getElem?_getD]
theorem getD_drop {a : List Int} {q i : Nat} : (a.drop q).getD i 0 = a.getD (q + i) 0 := by
  rw [List.getD_eq_getElem?_getD, List.getElem?_drop, ← List.getD_eq_getElem?_getD]
theorem getD_take {a : List Int} {q i : Nat} (h : i < q) : (a.take q).getD i 0 = a.getD i 0 := by
  rw [List.getD_eq_getElem?_getD, List.getElem?_take, if_pos h, ← List.getD_eq_getElem?_getD]
theorem sasc_getD {u : List Int} (h : SAsc u) {i j : Nat} (hj : j < u.length) (hi : i < u.length) : u.getD i 0 ≤ u.getD j 0 ↔ i ≤ j := by
  have e : ∀ k, k < u.length → u[k]? = some (u.getD k 0) := fun k hk => by rw [List.getD_eq_getElem?_getD, List.getElem?_eq_getElem hk, Option.getD_some]
  constructor
  · intro hle
    rcases Nat.lt_or_ge j i with h1 | h1
    · have h2 := List.pairwise_iff_getElem.1 h j i hj hi h1
      have h3 : u.getD i 0 = u[i] := by rw [List.getD_eq_getElem?_getD, List.getElem?_eq_getElem hi, Option.getD_some]
      have h4 : u.getD j 0 = u[j] := by rw [List.getD_eq_getElem?_getD, List.getElem?_eq_getElem hj, Option.getD_some]
      omega
    · exact h1
  · intro hij
    exact asc_get h.asc hij (e i hi) (e j hj)

/-- Where the turned list begins. -/
def beg (n q : Nat) : Nat := if q = 0 then 0 else n - q
/-- What Begin asks of a turned list: it holds just from the place on at which the list begins. -/
theorem turned_test {u : List Int} (h : SAsc u) {q i : Nat} (hq : q < u.length) (hi : i < u.length) :
    (u.drop q ++ u.take q).getD i 0 ≤ (u.drop q ++ u.take q).getD (u.length - 1) 0 ↔ beg u.length q ≤ i := by
  have hd : (u.drop q).length = u.length - q := List.length_drop
  unfold beg
  by_cases h0 : q = 0
  · subst h0
    simp only [List.drop_zero, List.take_zero, List.append_nil, if_true]
    rw [sasc_getD h (by omega) hi]
    omega
  · rw [if_neg h0, getD_append_ge (i := u.length - 1) (by omega), hd, getD_take (by omega)]
    by_cases h1 : i < u.length - q
    · rw [getD_append_lt (by omega), getD_drop, sasc_getD h (by omega) (by omega)]
      omega
    · rw [getD_append_ge (by omega), hd, getD_take (by omega), sasc_getD h (by omega) (by omega)]
      omega
theorem beg_eq {n q : Nat} (hq : q < n) : beg n q = (n - q) % n := by
  unfold beg
  split
  · rename_i h; subst h; simp
  · rw [Nat.mod_eq_of_lt (by omega)]
theorem beg_back {u : List Int} {q : Nat} (hq : q ≤ u.length) : (u.drop q ++ u.take q).drop (beg u.length q) ++ (u.drop q ++ u.take q).take (beg u.length q) = u := by
  unfold beg
  split
  · rename_i h; subst h; simp
  · have e : (u.drop q).length = u.length - q := List.length_drop
    rw [← e, List.drop_left, List.take_left, List.take_append_drop]
theorem turn_again (x : List Int) (k : Int) : turn (turn x k) k = turn x k := by
  have h : uni (turn x k) = uni x := sasc_ext (uni_sasc _) (uni_sasc _) (fun v => by rw [mem_uni, (turn_perm x k).mem_iff])
  unfold turn at *
  rw [h]
/-- The turned list, by the number by which it is turned. -/
theorem turn_q (x : List Int) (k : Int) : ∃ q, q ≤ (uni x).length ∧ (0 < (uni x).length → q < (uni x).length ∧ (q : Int) = k % ((uni x).length : Int)) ∧ turn x k = (uni x).drop q ++ (uni x).take q := by
  rcases Nat.eq_zero_or_pos (uni x).length with h0 | h0
  · exact ⟨0, Nat.zero_le _, fun h => by omega, by unfold turn; rw [List.eq_nil_of_length_eq_zero h0]; simp⟩
  · have h1 := Int.emod_nonneg k (show ((uni x).length : Int) ≠ 0 by omega)
    have h2 := Int.emod_lt_of_pos k (show (0 : Int) < ((uni x).length : Int) by omega)
    exact ⟨(k % ((uni x).length : Int)).toNat, by omega, fun _ => ⟨by omega, by omega⟩, rfl⟩
theorem uni_empty {x : List Int} : (uni x).length = 0 ↔ x.length = 0 := by
  constructor
  · intro h
    have := List.eq_nil_of_length_eq_zero h
    match x with
    | [] => rfl
    | a :: r => have h2 : a ∈ uni (a :: r) := mem_uni.2 (by simp); rw [this] at h2; cases h2
  · intro h
    have := uni_len x
    omega

end Go.Proofs.Ytgnjncadecelhaa

/-
  What is proved here: plain facts on what a bag tells: numbers put in and taken out, counts and indices; no condition.
-/
import Derived.Test.YtpkdjdofbedncaaBagPlain
namespace Go.Proofs.Ytpkdjdofbedncaa
set_option linter.unusedVariables false

def puts (x : List Int) : List (Int × Int) := x.map fun v => (0, v)
def takes (x : List Int) : List (Int × Int) := x.map fun v => (1, v)
def asks (x : List Int) : List (Int × Int) := x.map fun v => (2, v)

theorem asc_idem {l : List Int} (h : Asc l) : asc l = l := (asc_eq h (List.Perm.refl _)).symm
theorem asc_congr {a b : List Int} (h : a.Perm b) : asc a = asc b := asc_eq (asc_asc a) ((asc_perm a).trans h)
theorem lessN_perm {a b : List Int} (h : a.Perm b) (v : Int) : lessN a v = lessN b v := h.countP_eq _

theorem put_one (t l : List Int) (v : Int) : bagStep (t, asc l) (0, v) = (t ++ [(lessN l v : Int)], asc (l ++ [v])) := by
  rw [bagStep0 (by rfl)]
  simp only
  rw [asc_ins_eq (asc_asc l) v, lessN_perm (asc_perm l), asc_congr (((asc_perm l).append_right [v]))]
theorem take_one {t l l' : List Int} {v : Int} (h : (v :: l').Perm l) : bagStep (t, asc l) (1, v) = (t ++ [1], asc l') := by
  have hm : v ∈ asc l := (asc_perm l).mem_iff.2 (h.mem_iff.1 (by simp))
  rw [bagStep1y (by rfl) hm]
  simp only [Prod.mk.injEq, true_and]
  refine asc_eq (asc_del (asc_asc l) _) ?_
  have h1 := perm_del (asc_asc l) hm
  exact (h1.trans ((asc_perm l).trans h.symm)).cons_inv
theorem take_none {t l : List Int} {v : Int} (h : ¬ v ∈ l) : bagStep (t, asc l) (1, v) = (t ++ [0], asc l) := by
  rw [bagStep1n (by rfl) (fun hm => h ((asc_perm l).mem_iff.1 hm))]

/-- What is told when numbers are put in. -/
def toldPut : List Int → List Int → List Int
  | _, [] => []
  | l, v :: r => (lessN l v : Int) :: toldPut (l ++ [v]) r
theorem run_puts (x : List Int) : ∀ (t l : List Int), bagRun (t, asc l) (puts x) = (t ++ toldPut l x, asc (l ++ x)) := by
  induction x with
  | nil => intro t l; simp [bagRun, puts, toldPut]
  | cons v r ih =>
    intro t l
    have e : bagRun (t, asc l) (puts (v :: r)) = bagRun (bagStep (t, asc l) (0, v)) (puts r) := rfl
    rw [e, put_one, ih]
    simp [toldPut]
theorem toldPut_len (x : List Int) : ∀ l, (toldPut l x).length = x.length := by
  induction x with
  | nil => intro l; rfl
  | cons v r ih => intro l; simp [toldPut, ih]
theorem toldPut_at (x : List Int) : ∀ (l : List Int) (i : Nat) (v : Int), x[i]? = some v → (toldPut l x)[i]? = some (lessN (l ++ x.take i) v : Int) := by
  induction x with
  | nil => intro l i v h; simp at h
  | cons a r ih =>
    intro l i v h
    cases i with
    | zero => simp at h; subst h; simp [toldPut]
    | succ i =>
      have h2 : r[i]? = some v := by simpa using h
      simp only [toldPut, List.getElem?_cons_succ]
      rw [ih (l ++ [a]) i v h2]
      simp
/-- Numbers that are there are taken out, one after the other. -/
theorem run_takes (x : List Int) : ∀ (t l l' : List Int), (x ++ l').Perm l → bagRun (t, asc l) (takes x) = (t ++ List.replicate x.length 1, asc l') := by
  induction x with
  | nil => intro t l l' h; simp [bagRun, takes]; exact asc_congr h.symm
  | cons v r ih =>
    intro t l l' h
    have e : bagRun (t, asc l) (takes (v :: r)) = bagRun (bagStep (t, asc l) (1, v)) (takes r) := rfl
    rw [e, take_one (l' := r ++ l') h, ih _ _ l' (List.Perm.refl _)]
    simp [List.replicate_succ]
theorem run_back (start x : List Int) : bagRun ([], asc start) (puts x ++ takes x.reverse) = (toldPut start x ++ List.replicate x.length 1, asc start) := by
  rw [bagRun_append, run_puts, run_takes x.reverse _ _ start ?_]
  · simp
  · exact (List.perm_append_comm (l₁ := x.reverse) (l₂ := start)).trans ((List.reverse_perm x).append_left start)
theorem run_empty (x : List Int) (v : Int) : bagRun ([], asc x.reverse) (takes (x ++ [v])) = (List.replicate x.length 1 ++ [0], []) := by
  have e : takes (x ++ [v]) = takes x ++ takes [v] := by simp [takes]
  rw [e, bagRun_append, run_takes x _ _ [] (by simpa using (List.reverse_perm x).symm)]
  have e2 : ∀ s, bagRun s (takes [v]) = bagStep s (1, v) := fun s => rfl
  rw [e2, take_none (by simp)]
  simp [asc_idem (l := []) (by simp [Asc])]
/-- Asking changes nothing. -/
theorem run_asks (x : List Int) : ∀ (t l : List Int), bagRun (t, l) (asks x) = (t ++ x.map (fun v => (lessN l v : Int)), l) := by
  induction x with
  | nil => intro t l; simp [bagRun, asks]
  | cons v r ih =>
    intro t l
    have e : bagRun (t, l) (asks (v :: r)) = bagRun (bagStep (t, l) (2, v)) (asks r) := rfl
    rw [e, bagStep2 (by rfl), ih]
    simp
/-- The orders that ask for the numbers at the indices from 0 on. -/
def tells (n : Nat) : List (Int × Int) := (List.range n).map fun (i : Nat) => (3, (i : Int))
theorem run_tells (l : List Int) : ∀ n, n ≤ l.length → bagRun ([], l) (tells n) = (l.take n, l) := by
  intro n
  induction n with
  | zero => intro _; simp [bagRun, tells]
  | succ n ih =>
    intro h
    have e : tells (n + 1) = tells n ++ [(3, (n : Int))] := by simp [tells, List.range_succ]
    rw [e, bagRun_append, ih (by omega)]
    have e2 : ∀ s, bagRun s [(3, (n : Int))] = bagStep s (3, (n : Int)) := fun s => rfl
    rw [e2, bagStep3 (by rfl)]
    have h2 : ((n : Int) % (l.length : Int)).toNat = n := by
      rw [Int.emod_eq_of_lt (by omega) (by omega)]
      rfl
    simp only [h2]
    have h3 : l.getD n 0 = l[n] := by rw [List.getD_eq_getElem?_getD, List.getElem?_eq_getElem (by omega), Option.getD_some]
    rw [h3, List.take_add_one, List.getElem?_eq_getElem (by omega)]
    rfl
/-- As many less as stand ahead of the first equal one. -/
theorem tells_place {A : List Int} (hA : Asc A) {i : Nat} {v : Int} (hi : A[i]? = some v) : lessN A v ≤ i ∧ A[lessN A v]? = some v ∧ (0 < lessN A v → ∃ y, A[lessN A v - 1]? = some y ∧ y < v) := by
  have hm : v ∈ A := List.mem_of_getElem? hi
  obtain ⟨h1, h2⟩ := lessN_ahead hA v
  have hl := lessN_lt hm
  refine ⟨?_, lessN_at hA hm, fun hp => ⟨A[lessN A v - 1], List.getElem?_eq_getElem _, ?_⟩⟩
  · rcases Nat.lt_or_ge i (lessN A v) with h | h
    · have h3 : v ∈ A.take (lessN A v) := List.mem_iff_getElem?.2 ⟨i, by rw [List.getElem?_take, if_pos h]; exact hi⟩
      have := h1 v h3
      omega
    · exact h
  · exact h1 _ (List.mem_iff_getElem?.2 ⟨lessN A v - 1, by rw [List.getElem?_take, if_pos (by omega)]; exact List.getElem?_eq_getElem (by omega)⟩)
/-- Orders can be cut anywhere. -/
theorem run_cut (start : List Int) (a b : List (Int × Int)) :
    (bagRun ([], asc start) a).1 ++ (bagRun ([], asc (bagRun ([], asc start) a).2) b).1 = (bagRun ([], asc start) (a ++ b)).1 ∧ (bagRun ([], asc (bagRun ([], asc start) a).2) b).2 = (bagRun ([], asc start) (a ++ b)).2 := by
  have h1 := bagRun_asc (s := ([], asc start)) (asc_asc start) a
  rw [asc_idem h1, bagRun_append]
  have h2 := bagRun_told (bagRun ([], asc start) a).1 (bagRun ([], asc start) a).2 b
  have e : ((bagRun ([], asc start) a).1, (bagRun ([], asc start) a).2) = bagRun ([], asc start) a := rfl
  rw [e] at h2
  rw [h2]
  exact ⟨rfl, rfl⟩

end Go.Proofs.Ytpkdjdofbedncaa

/-
  What is proved here: plain facts on rows sorted by one key after the other: it is the stable sort by the last key that parts two rows; no condition.
-/
import Derived.Test.YtiioojnoggcnmaaSortRows
namespace Go.Proofs.Ytiioojnoggcnmaa
open Go.Sort
set_option linter.unusedVariables false
set_option linter.unusedSectionVars false

section
variable {α : Type} [Inhabited α]
/-- First by the one comparison, then by the other. -/
def lexLt (lt2 lt1 : α → α → Bool) (x y : α) : Bool := lt2 x y || (!lt2 y x && lt1 x y)
theorem swo_lex {lt2 lt1 : α → α → Bool} (h2 : SWO lt2) (h1 : SWO lt1) : SWO (lexLt lt2 lt1) := by
  refine ⟨fun x => ?_, fun x y z hxy hyz => ?_, fun x y z hxy hyz => ?_⟩
  · simp [lexLt, h2.irrefl, h1.irrefl]
  · simp only [lexLt, Bool.or_eq_true, Bool.and_eq_true, Bool.not_eq_true'] at *
    rcases hxy with a | ⟨a, b⟩
    · left
      rcases hyz with c | ⟨c, _⟩
      · exact h2.trans _ _ _ a c
      · cases hx : lt2 x z with
        | true => rfl
        | false => have := h2.ntrans _ _ _ hx c; rw [a] at this; cases this
    · rcases hyz with c | ⟨c, d⟩
      · left
        cases hx : lt2 x z with
        | true => rfl
        | false => have := h2.ntrans _ _ _ a hx; rw [c] at this; cases this
      · right
        exact ⟨h2.ntrans _ _ _ c a, h1.trans _ _ _ b d⟩
  · simp only [lexLt, Bool.or_eq_false_iff, Bool.and_eq_false_iff, Bool.not_eq_false'] at *
    obtain ⟨a, b⟩ := hxy
    obtain ⟨c, d⟩ := hyz
    refine ⟨h2.ntrans _ _ _ a c, ?_⟩
    by_cases e : lt2 z x = true
    · exact .inl e
    · have e' : lt2 z x = false := by simpa using e
      right
      have b' : lt1 x y = false := by
        rcases b with b | b
        · have := h2.ntrans _ _ _ c e'
          rw [b] at this; cases this
        · exact b
      have d' : lt1 y z = false := by
        rcases d with d | d
        · have := h2.ntrans _ _ _ e' a
          rw [d] at this; cases this
        · exact d
      exact h1.ntrans _ _ _ b' d'
theorem swo_asymm {lt : α → α → Bool} (h : SWO lt) {x y : α} (hx : lt x y = true) : lt y x = false := by
  cases hy : lt y x with
  | false => rfl
  | true => have := h.trans _ _ _ hx hy; rw [h.irrefl] at this; cases this
/-- Two stable sorts, one after the other. -/
theorem stab_lex {lt2 lt1 : α → α → Bool} (h2 : SWO lt2) {l l1 l2 : List α} (s1 : Stab lt1 l l1) (s2 : Stab lt2 l1 l2) : Stab (lexLt lt2 lt1) l l2 := by
  obtain ⟨t1, p1, o1, rfl⟩ := s1
  obtain ⟨t2, p2, o2, rfl⟩ := s2
  have hmem : ∀ p ∈ t2, ∃ h : p.2 < t1.length, (t1[p.2]'h).1 = p.1 := fun p hp => by
    have h3 := List.mem_zipIdx' (p2.mem_iff.1 hp)
    have h4 : p.2 < t1.length := by simpa using h3.1
    refine ⟨h4, ?_⟩
    rw [h3.2]
    simp
  have hget : ∀ p ∈ t2, t1[p.2]!.1 = p.1 := fun p hp => by
    obtain ⟨h, e⟩ := hmem p hp
    rw [getElem!_pos t1 p.2 h]
    exact e
  refine ⟨t2.map fun p => t1[p.2]!, ?_, ?_, ?_⟩
  · have h3 : (t2.map fun p => t1[p.2]!).Perm ((t1.map Prod.fst).zipIdx.map fun p => t1[p.2]!) := p2.map _
    refine h3.trans ?_
    have e : ((t1.map Prod.fst).zipIdx.map fun p => t1[p.2]!) = t1 := by
      apply List.ext_getElem
      · simp
      · intro i h4 h5
        simp only [List.getElem_map, List.getElem_zipIdx, Nat.zero_add]
        rw [getElem!_pos t1 i h5]
    rw [e]
    exact p1
  · rw [List.pairwise_map]
    refine (List.Pairwise.and_mem.1 o2).imp ?_
    rintro p q ⟨hp, hq, h3⟩
    have ep := hget p hp
    have eq := hget q hq
    unfold Tt lexLt
    rw [ep, eq]
    rcases h3 with h3 | ⟨h3, h4⟩
    · left; simp [h3]
    · obtain ⟨bp, _⟩ := hmem p hp
      obtain ⟨bq, _⟩ := hmem q hq
      have h5 := List.pairwise_iff_getElem.1 o1 p.2 q.2 bp bq h4
      rw [← getElem!_pos t1 p.2 bp, ← getElem!_pos t1 q.2 bq] at h5
      unfold Tt at h5
      rw [ep, eq] at h5
      rcases h5 with h5 | ⟨h5, h6⟩
      · left; simp [h3, h5]
      · right
        refine ⟨?_, h6⟩
        simp [h3, h5]
  · rw [List.map_map]
    apply List.map_congr_left
    intro p hp
    exact (hget p hp).symm
/-- A sorted list stays as it is. -/
theorem stab_self {lt : α → α → Bool} {l : List α} (h : l.Pairwise (fun x y => lt y x = false)) : Stab lt l l := by
  refine ⟨l.zipIdx, List.Perm.refl _, ?_, by simp⟩
  rw [List.pairwise_iff_getElem]
  intro i j hi hj hij
  right
  have hi' : i < l.length := by simpa using hi
  have hj' : j < l.length := by simpa using hj
  have := List.pairwise_iff_getElem.1 h i j hi' hj' hij
  simp only [List.getElem_zipIdx]
  exact ⟨this, by omega⟩
theorem Stab.sorted {lt : α → α → Bool} (hO : SWO lt) {l l' : List α} (h : Stab lt l l') : l'.Pairwise (fun x y => lt y x = false) := by
  have hq : l.Pairwise (fun _ _ => True) := List.pairwise_iff_getElem.2 fun _ _ _ _ _ => trivial
  refine (h.order hq).imp ?_
  rintro x y (h3 | h3)
  · exact swo_asymm hO h3
  · exact h3.1
theorem perm_weak {β : Type} {le : β → β → Prop} (hT : ∀ x y, le x y → le y x → x = y) : ∀ {a b : List β}, a.Perm b → a.Pairwise le → b.Pairwise le → a = b
  | [], b, h, _, _ => h.nil_eq
  | x :: r, [], h, _, _ => absurd h.length_eq (by simp)
  | x :: r, y :: s, h, ha, hb => by
    rw [List.pairwise_cons] at ha hb
    have e : x = y := by
      have h1 : x ∈ y :: s := h.mem_iff.1 (by simp)
      have h2 : y ∈ x :: r := h.mem_iff.2 (by simp)
      rcases List.mem_cons.1 h1 with h1 | h1
      · exact h1
      · rcases List.mem_cons.1 h2 with h2 | h2
        · exact h2.symm
        · exact hT _ _ (ha.1 y h2) (hb.1 x h1)
    subst e
    rw [perm_weak hT h.cons_inv ha.2 hb.2]
end

/-- Does a row come before another one: the last key that parts them tells. -/
def ltKeys (ks : List Int) : (Int × Int × Int) → (Int × Int × Int) → Bool := ks.foldl (fun lt z => lexLt (ltKey (z % 3).toNat) lt) (fun _ _ => false)
theorem ltKeys_snoc (ks : List Int) (z : Int) : ltKeys (ks ++ [z]) = lexLt (ltKey (z % 3).toNat) (ltKeys ks) := by simp [ltKeys, List.foldl_append]
theorem swo_none : SWO (fun _ _ : Int × Int × Int => false) := ⟨fun _ => rfl, (fun _ _ _ h _ => by simp at h), (fun _ _ _ _ _ => rfl)⟩
theorem snoc_ind {p : List Int → Prop} (h0 : p []) (h1 : ∀ l z, p l → p (l ++ [z])) : ∀ n (l : List Int), l.length = n → p l := by
  intro n
  induction n with
  | zero => intro l hl; rw [List.eq_nil_of_length_eq_zero hl]; exact h0
  | succ n ih =>
    intro l hl
    have hne : l ≠ [] := by intro e; rw [e] at hl; simp at hl
    rw [← List.dropLast_concat_getLast hne]
    exact h1 _ _ (ih _ (by simp [hl]))
theorem swo_ltKeys (ks : List Int) : SWO (ltKeys ks) := snoc_ind (p := fun ks => SWO (ltKeys ks)) swo_none (fun l z h => by rw [ltKeys_snoc]; exact swo_lex (swo_ltKey _) h) _ ks rfl
theorem rsort_stab (l : List (Int × Int × Int)) (ks : List Int) : Stab (ltKeys ks) l (rsort l ks) := by
  refine snoc_ind (p := fun ks => Stab (ltKeys ks) l (rsort l ks)) ?_ ?_ _ ks rfl
  · exact stab_self (List.pairwise_iff_getElem.2 fun _ _ _ _ _ => rfl)
  · intro r z h
    rw [ltKeys_snoc]
    have e : rsort l (r ++ [z]) = ssort (z % 3).toNat (rsort l r) := by unfold rsort; rw [List.foldl_append]; rfl
    rw [e]
    exact stab_lex (swo_ltKey _) h (ssort_is _ _)
/-- Two rows that no key parts. -/
theorem ltKeys_tie {ks : List Int} {x y : Int × Int × Int} (h1 : ltKeys ks x y = false) (h2 : ltKeys ks y x = false) : ∀ z ∈ ks, keyOf (z % 3).toNat x = keyOf (z % 3).toNat y := by
  refine snoc_ind (p := fun ks => ltKeys ks x y = false → ltKeys ks y x = false → ∀ z ∈ ks, keyOf (z % 3).toNat x = keyOf (z % 3).toNat y) (fun _ _ z hz => by cases hz) ?_ _ ks rfl h1 h2
  intro r z ih h1 h2 u hu
  rw [ltKeys_snoc] at h1 h2
  simp only [lexLt, Bool.or_eq_false_iff, Bool.and_eq_false_iff, Bool.not_eq_false'] at h1 h2
  have ex : keyOf (z % 3).toNat x = keyOf (z % 3).toNat y := by
    have a := h1.1
    have b := h2.1
    simp [ltKey] at a b
    omega
  have n1 : ltKey (z % 3).toNat x y = false := h1.1
  have n2 : ltKey (z % 3).toNat y x = false := h2.1
  have r1 : ltKeys r x y = false := by
    rcases h1.2 with h | h
    · rw [n2] at h; cases h
    · exact h
  have r2 : ltKeys r y x = false := by
    rcases h2.2 with h | h
    · rw [n1] at h; cases h
    · exact h
  rw [List.mem_append] at hu
  rcases hu with hu | hu
  · exact ih r1 r2 u hu
  · simp at hu; subst hu; exact ex
/-- A key ahead of others makes no difference if it is one of these. -/
theorem ltKeys_ahead {ks : List Int} {z : Int} (hz : z ∈ ks) (x y : Int × Int × Int) : ltKeys (z :: ks) x y = ltKeys ks x y := by
  have key : ∀ ks : List Int, ltKeys (z :: ks) x y = (ltKeys ks x y || (!ltKeys ks y x && ltKey (z % 3).toNat x y)) ∧ ltKeys (z :: ks) y x = (ltKeys ks y x || (!ltKeys ks x y && ltKey (z % 3).toNat y x)) := by
    intro ks
    refine snoc_ind (p := fun ks => ltKeys (z :: ks) x y = (ltKeys ks x y || (!ltKeys ks y x && ltKey (z % 3).toNat x y)) ∧ ltKeys (z :: ks) y x = (ltKeys ks y x || (!ltKeys ks x y && ltKey (z % 3).toNat y x))) ?_ ?_ _ ks rfl
    · constructor <;> simp [ltKeys, lexLt]
    · intro r u ih
      rw [← List.cons_append, ltKeys_snoc, ltKeys_snoc]
      simp only [lexLt]
      rw [ih.1, ih.2]
      have hasym := fun h => swo_asymm (swo_ltKey (u % 3).toNat) (x := x) (y := y) h
      cases h1 : ltKey (u % 3).toNat x y <;> cases h2 : ltKey (u % 3).toNat y x <;> simp_all
  rw [(key ks).1]
  cases h1 : ltKeys ks x y with
  | true => simp
  | false =>
    cases h2 : ltKeys ks y x with
    | true => simp
    | false =>
      have := ltKeys_tie h1 h2 z hz
      simp [ltKey, this]
theorem rsort_ahead (l : List (Int × Int × Int)) {ks : List Int} {z : Int} (hz : z ∈ ks) : rsort l (z :: ks) = rsort l ks := by
  have h := rsort_stab l (z :: ks)
  have e : ltKeys (z :: ks) = ltKeys ks := by funext x y; exact ltKeys_ahead hz x y
  rw [e] at h
  exact stab_unique (swo_ltKeys ks) h (rsort_stab l ks)
theorem rsort_again (l : List (Int × Int × Int)) (ks : List Int) : rsort (rsort l ks) ks = rsort l ks :=
  stab_unique (swo_ltKeys ks) (rsort_stab (rsort l ks) ks) (stab_self ((rsort_stab l ks).sorted (swo_ltKeys ks)))
theorem rsort_mirror (l : List (Int × Int × Int)) {ks : List Int} (h : ∀ k, k < 3 → ∃ z ∈ ks, (z % 3).toNat = k) : rsort l.reverse ks = rsort l ks := by
  refine perm_weak (le := fun x y => ltKeys ks y x = false) (fun x y h1 h2 => ?_) ((rsort_perm l.reverse ks).trans ((List.reverse_perm l).trans (rsort_perm l ks).symm)) ((rsort_stab l.reverse ks).sorted (swo_ltKeys ks)) ((rsort_stab l ks).sorted (swo_ltKeys ks))
  have ht := ltKeys_tie h2 h1
  obtain ⟨z0, m0, e0⟩ := h 0 (by omega)
  obtain ⟨z1, m1, e1⟩ := h 1 (by omega)
  obtain ⟨z2, m2, e2⟩ := h 2 (by omega)
  have a0 := ht z0 m0
  have a1 := ht z1 m1
  have a2 := ht z2 m2
  rw [e0] at a0
  rw [e1] at a1
  rw [e2] at a2
  simp [keyOf] at a0 a1 a2
  exact Prod.ext a0 (Prod.ext a1 a2)

end Go.Proofs.Ytiioojnoggcnmaa

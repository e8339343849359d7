/-
  What is proved here: the stable sort of a list by a comparison, told by tags of the places: it is one list alone; no condition.
-/
import Derived.Test.YtiioojnoggcnmaaRel
namespace Go.Proofs.Ytiioojnoggcnmaa
open Go.RowKit Go.Sort
set_option linter.unusedVariables false
set_option linter.unusedSectionVars false

section
variable {α : Type} [Inhabited α] {lt : α → α → Bool}

/-- The order of tagged elements: by the comparison, equal ones by their tags. -/
def Tt (lt : α → α → Bool) (x y : α × Nat) : Prop := lt x.1 y.1 = true ∨ (lt y.1 x.1 = false ∧ x.2 < y.2)
theorem tt_trans (hO : SWO lt) (x y z : α × Nat) (h : Tt lt x y) (h' : Tt lt y z) : Tt lt x z := by
  rcases h with h | ⟨h1, h2⟩
  · rcases h' with h' | ⟨h3, h4⟩
    · exact .inl (hO.trans _ _ _ h h')
    · left
      cases hx : lt x.1 z.1 with
      | true => rfl
      | false => have := hO.ntrans _ _ _ hx h3; rw [h] at this; cases this
  · rcases h' with h' | ⟨h3, h4⟩
    · left
      cases hx : lt x.1 z.1 with
      | true => rfl
      | false => have := hO.ntrans _ _ _ h1 hx; rw [h'] at this; cases this
    · exact .inr ⟨hO.ntrans _ _ _ h3 h1, by omega⟩
theorem tt_asymm (hO : SWO lt) (x y : α × Nat) (h : Tt lt x y) (h' : Tt lt y x) : False := by
  rcases tt_trans hO x y x h h' with h3 | ⟨_, h3⟩
  · have := hO.irrefl x.1; rw [h3] at this; cases this
  · omega
/-- l' is the list l, sorted so that equal ones keep their order. -/
def Stab (lt : α → α → Bool) (l l' : List α) : Prop := ∃ t : List (α × Nat), t.Perm l.zipIdx ∧ t.Pairwise (Tt lt) ∧ l' = t.map Prod.fst
theorem perm_strict {β : Type} {T : β → β → Prop} (hT : ∀ x y, T x y → T y x → False) : ∀ {a b : List β}, a.Perm b → a.Pairwise T → b.Pairwise T → a = b
  | [], b, h, _, _ => h.nil_eq
  | x :: r, [], h, _, _ => absurd h.length_eq (by simp)
  | x :: r, y :: s, h, ha, hb => by
    rw [List.pairwise_cons] at ha hb
    have e : x = y := by
      have h1 : x ∈ y :: s := h.mem_iff.1 (by simp)
      have h2 : y ∈ x :: r := h.mem_iff.2 (by simp)
      rcases List.mem_cons.1 h1 with h1 | h1
      · exact h1
      · rcases List.mem_cons.1 h2 with h2 | h2
        · exact h2.symm
        · exact (hT _ _ (hb.1 x h1) (ha.1 y h2)).elim
    subst e
    rw [perm_strict hT h.cons_inv ha.2 hb.2]
theorem stab_unique (hO : SWO lt) {l a b : List α} (ha : Stab lt l a) (hb : Stab lt l b) : a = b := by
  obtain ⟨t, h1, h2, rfl⟩ := ha
  obtain ⟨u, h3, h4, rfl⟩ := hb
  rw [perm_strict (tt_asymm hO) (h1.trans h3.symm) h2 h4]
theorem Stab.perm {l l' : List α} (h : Stab lt l l') : l'.Perm l := by
  obtain ⟨t, h1, h2, rfl⟩ := h
  have := h1.map Prod.fst
  rwa [List.zipIdx_map_fst] at this
theorem Stab.length {l l' : List α} (h : Stab lt l l') : l'.length = l.length := h.perm.length_eq
/-- Whatever the list's places tell of two elements, the sorted list tells of two equal ones. -/
theorem Stab.order {l l' : List α} (h : Stab lt l l') {Q : α → α → Prop} (hQ : l.Pairwise Q) : l'.Pairwise (fun x y => lt x y = true ∨ (lt y x = false ∧ Q x y)) := by
  obtain ⟨t, h1, h2, rfl⟩ := h
  rw [List.pairwise_map]
  refine (List.Pairwise.and_mem.1 h2).imp ?_
  rintro x y ⟨hx, hy, h3⟩
  rcases h3 with h3 | ⟨h3, h4⟩
  · exact .inl h3
  · refine .inr ⟨h3, ?_⟩
    have hx' := List.mem_zipIdx' (h1.mem_iff.1 hx)
    have hy' := List.mem_zipIdx' (h1.mem_iff.1 hy)
    rw [hx'.2, hy'.2]
    exact List.pairwise_iff_getElem.1 hQ _ _ hx'.1 hy'.1 h4

theorem map_get (d : Array (α × Nat)) (i : Nat) (hi : i < d.size) : (d.map Prod.fst)[i]! = d[i]!.1 := by
  rw [getElem!_pos (d.map Prod.fst) i (by simpa using hi), getElem!_pos d i hi]
  simp
theorem map_swp (d : Array (α × Nat)) (i j : Nat) (hi : i < d.size) (hj : j < d.size) : (swp d i j).map Prod.fst = swp (d.map Prod.fst) i j := by
  apply Array.ext
  · simp [size_swp]
  · intro t h1 h2
    have h3 : t < d.size := by simpa [size_swp] using h1
    have e1 := map_get (swp d i j) t (by rw [size_swp]; exact h3)
    rw [getElem!_pos ((swp d i j).map Prod.fst) t h1] at e1
    rw [e1, ← getElem!_pos (swp (d.map Prod.fst) i j) t h2, swp_get d hi hj, swp_get (d.map Prod.fst) (by simpa using hi) (by simpa using hj), map_get d i hi, map_get d j hj, map_get d t h3]
    split
    · rfl
    · split <;> rfl
/-- The array of tagged elements. -/
def tagged (l : List α) : Array (α × Nat) := l.zipIdx.toArray
theorem tagged_map (l : List α) : (tagged l).map Prod.fst = l.toArray := by
  unfold tagged
  rw [List.map_toArray, List.zipIdx_map_fst]
theorem tagged_size (l : List α) : (tagged l).size = l.length := by simp [tagged]
theorem tagged_get (l : List α) {i : Nat} (hi : i < l.length) : (tagged l)[i]!.2 = i := by
  rw [getElem!_pos (tagged l) i (by rw [tagged_size]; exact hi)]
  simp [tagged]
theorem tagged_dec (l : List α) (i j : Nat) (hij : i < j) (hj : j < l.length) : Dec (fun x y : α × Nat => lt x.1 y.1) (Tt lt) (tagged l)[i]! (tagged l)[j]! :=
  ⟨fun h => .inl h, fun h => .inr ⟨h, by rw [tagged_get l (by omega), tagged_get l hj]; exact hij⟩⟩
theorem tagged_stab {l : List α} {d' : Array (α × Nat)} (hp : PermIn 0 l.length (tagged l) d') (hs : SortT (Tt lt) 0 l.length d') : Stab lt l (d'.map Prod.fst).toList := by
  have hsz : d'.size = l.length := by rw [hp.1, tagged_size]
  refine ⟨d'.toList, ?_, ?_, by simp⟩
  · have h2 := hp.2.2
    rw [← hsz] at h2
    have e1 : d'.extract 0 d'.size = d' := by simp
    have e2 : (tagged l).extract 0 d'.size = tagged l := by rw [hsz, ← tagged_size l]; simp
    rw [e1, e2] at h2
    simpa [tagged] using h2
  · rw [List.pairwise_iff_getElem]
    intro i j hi hj hij
    have hi' : i < d'.size := by simpa using hi
    have hj' : j < d'.size := by simpa using hj
    have := hs i j (Nat.zero_le _) hij (by omega)
    rw [getElem!_pos d' i hi', getElem!_pos d' j hj'] at this
    simpa using this

/-- The relation, over tagged elements. -/
theorem FnRel.tag {P : Program} {B n : Nat} {R : World → Array α → Prop} {gl sf : Nat} {lb sb : Array Value} (K : FnRel P lt B n R gl lb sf sb) :
    FnRel P (fun x y : α × Nat => lt x.1 y.1) B n (fun W d => R W (d.map Prod.fst)) gl lb sf sb where
  near h hb := K.near h hb
  size h := by have := K.size h; simpa using this
  eg := K.eg
  less {W d} i j zi zj h hi hj ei ej := by
    have hs : d.size = n := by simpa using (K.size h).2
    have := K.less i j zi zj h hi hj ei ej
    rwa [map_get d i (by omega), map_get d j (by omega)] at this
  swap {W d} i j zi zj h hi hj ei ej := by
    have hs : d.size = n := by simpa using (K.size h).2
    obtain ⟨W', h1, h2, h3⟩ := K.swap i j zi zj h hi hj ei ej
    exact ⟨W', h1, by rw [map_swp d i j (by omega) (by omega)]; exact h2, h3⟩
end

end Go.Proofs.Ytiioojnoggcnmaa

/-
  What is proved here: what the world of a sorted row of structs holds (the row's block alone has turned), and that the sorted row is a sorted permutation of the list; no condition.
-/
import Derived.Test.YtiioojnoggcnmaaOutK
import Derived.Test.YtiioojnoggcnmaaSortMem
import Derived.Shelf.SlSortFuncK.WholeK
namespace Go.Proofs.Ytiioojnoggcnmaa
open Go.RowKit
set_option linter.unusedVariables false
set_option linter.unusedSectionVars false

section
variable {α : Type} [Inhabited α] {K : Nat} {enc : α → List Int}

/-- A struct's cells. -/
def encV (enc : α → List Int) (a : α) : List Value := (enc a).map (Value.int .i64)
theorem encV_len (henc : ∀ a, (enc a).length = K) (a : α) : (encV enc a).length = K := by rw [encV, List.length_map, henc]
theorem encV_one (a : α) : ∀ v ∈ encV enc a, v.oneCell' = true := oneCell_ints _

theorem flat_list (henc : ∀ a, (enc a).length = K) (hK : 0 < K) (d : Array α) : (Go.Sort.flatK (encV enc) K d).toList = cellsK enc d.toList := by
  apply List.ext_getElem?
  intro t
  by_cases ht : t < d.size * K
  · have hi : t / K < d.size := Nat.div_lt_of_lt_mul (by rw [Nat.mul_comm]; exact ht)
    have hm : t % K < K := Nat.mod_lt _ hK
    have hx : d.toList[t / K]? = some d[t / K]! := by
      rw [List.getElem?_eq_getElem (by simpa using hi), getElem!_pos d _ hi]
      simp
    have hy : (enc d[t / K]!)[t % K]? = some ((enc d[t / K]!)[t % K]'(by rw [henc]; exact hm)) := List.getElem?_eq_getElem _
    have h5 := cellsK_at henc hx hy
    rw [Nat.div_add_mod' t K] at h5
    rw [h5, Array.getElem?_toList, Array.getElem?_eq_getElem (by simpa using ht)]
    have h6 := Go.Sort.get_flatK (encV enc) K d t ht
    rw [getElem!_pos _ _ (by simpa using ht)] at h6
    rw [h6]
    congr 1
    rw [getElem!_pos (encV enc d[t / K]!) (t % K) (by rw [encV_len henc]; exact hm)]
    simp [encV]
  · rw [List.getElem?_eq_none (by simp; omega), List.getElem?_eq_none (by rw [cellsK_len henc]; simp; omega)]

theorem putCells_takeV (cur F : Array Value) (hd : F.size ≤ cur.size) : (Go.Sort.putCells id 0 F cur).toList.take F.size = F.toList := by
  apply List.ext_getElem?
  intro k
  unfold Go.Sort.putCells
  rw [List.getElem?_take]
  by_cases hk : k < F.size
  · rw [if_pos hk, Array.getElem?_toList, Array.getElem?_mapIdx, Array.getElem?_toList, Array.getElem?_eq_getElem (show k < cur.size by omega), Array.getElem?_eq_getElem hk]
    simp [hk]
  · rw [if_neg hk, Array.getElem?_toList, Array.getElem?_eq_none (by omega)]

theorem own_sortedK (henc : ∀ a, (enc a).length = K) (hK : 0 < K) {E : TypeId} {B : Nat} {w : World} {g n cap : Nat} {xs : List α} (h : OwnK K enc E B w (.slice (some ⟨g, 0, none⟩) n cap) xs) (m : Nat) (d : Array α) (os : Array Obj) (hd : d.size = n) :
    OwnK K enc E B (Go.Sort.grow (Go.Sort.putRowK (encV enc) K (Go.Sort.ahead w m) g 0 d) os) (.slice (some ⟨g, 0, none⟩) n cap) d.toList := by
  obtain ⟨_, hgl, hxl, _, _⟩ := h.lt
  unfold OwnK at h ⊢
  obtain ⟨h1, h2⟩ := h
  rw [show d.toList.length = n by simp [hd]]
  refine ⟨by rw [cellsK_len henc]; simp [hd], .inr ?_⟩
  rcases h2 with ⟨hv, _⟩ | ⟨g', cap', cur, hv, hb, hh, hnc, hcm, hcs, htk⟩
  · cases hv
  · injection hv with ha hb1 hc1
    injection ha with ha
    injection ha with ha
    subst ha; subst hc1
    have hfs : (Go.Sort.flatK (encV enc) K d).size ≤ cur.size := by
      rw [Go.Sort.size_flatK, hcs, hd]
      exact Nat.mul_le_mul_right K (by omega)
    refine ⟨g, cap, Go.Sort.putCells id 0 (Go.Sort.flatK (encV enc) K d) cur, rfl, hb, ?_, by omega, hcm, ?_, ?_⟩
    · rw [grow_block _ _ _ (by unfold Go.Sort.putRowK; rw [putRow_size]; exact hgl)]
      unfold Go.Sort.putRowK Go.Sort.putRow Go.Sort.mapBlock
      simp only [Array.getElem?_modify]
      rw [if_pos trivial, show (Go.Sort.ahead w m).heap[g]? = _ from hh]
      rfl
    · unfold Go.Sort.putCells; simpa using hcs
    · have e := putCells_takeV cur _ hfs
      rw [Go.Sort.size_flatK, hd] at e
      rw [e, flat_list henc hK]

theorem own_holdsK (henc : ∀ a, (enc a).length = K) (hK : 0 < K) {E : TypeId} {B : Nat} {w : World} {g n cap : Nat} {xs : List α} (h : OwnK K enc E B w (.slice (some ⟨g, 0, none⟩) n cap) xs) : Go.Sort.HoldsK (encV enc) K w g 0 xs.toArray := by
  intro j hj
  obtain ⟨_, hgl, hxl, _, _⟩ := h.lt
  have hfl := flat_list henc hK xs.toArray
  have hx : (cellsK enc xs)[j]? = some ((Go.Sort.flatK (encV enc) K xs.toArray)[j]!) := by
    have e : xs.toArray.toList = xs := rfl
    rw [e] at hfl
    rw [← hfl, Array.getElem?_toList, Array.getElem?_eq_getElem hj, getElem!_pos (Go.Sort.flatK (encV enc) K xs.toArray) j hj]
  unfold OwnK at h
  obtain ⟨h1, h2⟩ := h
  rcases h2 with ⟨hv, _⟩ | ⟨g', cap', cur, hv, hb, hh, hnc, hcm, hcs, htk⟩
  · cases hv
  · injection hv with ha hb1 hc1
    injection ha with ha
    injection ha with ha
    subst ha
    refine ⟨?_, by simp [World.frozen?, hh]⟩
    rw [Nat.zero_add, cell_of_row w g j cur E (0, 0) hh]
    rw [← htk, List.getElem?_take] at hx
    split at hx
    · simpa using hx
    · cases hx

theorem grownBy_sortedK (w : World) (m g off : Nat) (d : Array α) (os : Array Obj) : w.grownBy (Go.Sort.grow (Go.Sort.putRowK (encV enc) K (Go.Sort.ahead w m) g off d) os) (some g) :=
  grownBy_sorted id w m g off _ os

theorem sorted_list {lt : α → α → Bool} {xs : List α} {d : Array α} (hp : Go.Sort.PermIn 0 xs.toArray.size xs.toArray d) (hs : Go.Sort.SortedIn lt 0 xs.toArray.size d) : d.size = xs.length ∧ d.toList.Perm xs ∧ d.toList.Pairwise (fun a b => lt b a = false) := by
  obtain ⟨h1, _, h2⟩ := hp
  have hsz : d.size = xs.length := by rw [h1]; simp
  refine ⟨hsz, ?_, ?_⟩
  · have e1 : d.extract 0 xs.toArray.size = d := by simp [← hsz]
    rw [e1] at h2
    simpa using h2
  · rw [List.pairwise_iff_getElem]
    intro i j hi hj hij
    have := hs i j (Nat.zero_le _) hij (by simp at hj ⊢; omega)
    have hi' : i < d.size := by simpa using hi
    have hj' : j < d.size := by simpa using hj
    rw [getElem!_pos d i hi', getElem!_pos d j hj'] at this
    simpa using this
end

end Go.Proofs.Ytiioojnoggcnmaa

/-
  What is proved here: what the world of a sorted row holds (the row's block alone has turned), and that the sorted row is the ascending list; no condition.
-/
import Derived.Test.YtiioojnoggcnmaaOwn
import Derived.Test.YtiioojnoggcnmaaAscPlain
import Derived.Shelf.GgSortFunc.Whole
import Derived.Shelf.GgSortFunc.Tiny
namespace Go.Proofs.Ytiioojnoggcnmaa
open Go.RowKit
set_option linter.unusedVariables false

theorem grow_block (w : World) (os : Array Obj) (k : Nat) (h : k < w.heap.size) : (Go.Sort.grow w os).heap[k]? = w.heap[k]? := by
  unfold Go.Sort.grow
  exact Array.getElem?_append_left h
theorem grownBy_grow (w : World) (os : Array Obj) (o : Option Nat) : w.grownBy (Go.Sort.grow w os) o :=
  ⟨rfl, rfl, rfl, by rw [Go.Sort.size_grow]; omega, fun k hk _ => grow_block w os k hk⟩
theorem putRow_size {α : Type} [Inhabited α] (enc : α → Value) (w : World) (g off : Nat) (d : Array α) : (Go.Sort.putRow enc w g off d).heap.size = w.heap.size := by
  unfold Go.Sort.putRow Go.Sort.mapBlock
  simp
theorem putRow_block {α : Type} [Inhabited α] (enc : α → Value) (w : World) (g off : Nat) (d : Array α) (k : Nat) (h : k ≠ g) : (Go.Sort.putRow enc w g off d).heap[k]? = w.heap[k]? := by
  unfold Go.Sort.putRow Go.Sort.mapBlock
  simp only [Array.getElem?_modify]
  rw [if_neg (fun e => h e.symm)]
theorem grownBy_sorted {α : Type} [Inhabited α] (enc : α → Value) (w : World) (m g off : Nat) (d : Array α) (os : Array Obj) : w.grownBy (Go.Sort.grow (Go.Sort.putRow enc (Go.Sort.ahead w m) g off d) os) (some g) := by
  have hs : (Go.Sort.putRow enc (Go.Sort.ahead w m) g off d).heap.size = w.heap.size := putRow_size _ _ _ _ _
  refine ⟨rfl, rfl, rfl, by rw [Go.Sort.size_grow, hs]; omega, fun k hk hne => ?_⟩
  rw [grow_block _ _ _ (by rw [hs]; exact hk), putRow_block _ _ _ _ _ _ (fun e => hne (by rw [e]))]
  rfl

theorem putCells_take (cur : Array Value) (d : Array Int) (hd : d.size ≤ cur.size) : (Go.Sort.putCells (Value.int .i64) 0 d cur).toList.take d.size = d.toList.map (Value.int .i64) := by
  apply List.ext_getElem?
  intro k
  unfold Go.Sort.putCells
  rw [List.getElem?_take]
  by_cases hk : k < d.size
  · rw [if_pos hk, Array.getElem?_toList, Array.getElem?_mapIdx, List.getElem?_map, Array.getElem?_toList, Array.getElem?_eq_getElem (show k < cur.size by omega), Array.getElem?_eq_getElem hk]
    simp [hk]
  · rw [if_neg hk, List.getElem?_map, Array.getElem?_toList, Array.getElem?_eq_none (by omega)]
    rfl

theorem own_sorted {E : TypeId} {B : Nat} {w : World} {g n cap : Nat} {xs : List Int} (h : Own E B w (.slice (some ⟨g, 0, none⟩) n cap) xs) (m : Nat) (d : Array Int) (os : Array Obj) (hd : d.size = n) :
    Own E B (Go.Sort.grow (Go.Sort.putRow (Value.int .i64) (Go.Sort.ahead w m) g 0 d) os) (.slice (some ⟨g, 0, none⟩) n cap) d.toList := by
  obtain ⟨_, hgl, hxl, _, _⟩ := own_lt h
  unfold Own at h ⊢
  obtain ⟨h1, h2⟩ := h
  rw [show d.toList.length = n by simp [hd]]
  refine ⟨by simp [hd], .inr ?_⟩
  rcases h2 with ⟨hv, _⟩ | ⟨g', cap', cur, hv, hb, hh, hnc, hcm, hcs, htk⟩
  · cases hv
  · injection hv with ha hb1 hc1
    injection ha with ha
    injection ha with ha
    subst ha; subst hc1
    refine ⟨g, cap, Go.Sort.putCells (Value.int .i64) 0 d cur, rfl, hb, ?_, by omega, hcm, ?_, ?_⟩
    · rw [grow_block _ _ _ (by rw [putRow_size]; exact hgl)]
      unfold Go.Sort.putRow Go.Sort.mapBlock
      simp only [Array.getElem?_modify]
      rw [if_pos trivial, show (Go.Sort.ahead w m).heap[g]? = _ from hh]
      rfl
    · unfold Go.Sort.putCells; simpa using hcs
    · rw [Nat.mul_one, ← hd]
      exact putCells_take cur d (by omega)

theorem own_holds {E : TypeId} {B : Nat} {w : World} {g n cap : Nat} {xs : List Int} (h : Own E B w (.slice (some ⟨g, 0, none⟩) n cap) xs) : Go.Sort.Holds (Value.int .i64) w g 0 xs.toArray := by
  intro j hj
  have hj' : j < xs.length := by simpa using hj
  have hx : xs[j]? = some (xs.toArray[j]!) := by
    rw [List.getElem?_eq_getElem hj']
    simp [hj']
  rw [Nat.zero_add]
  refine ⟨(own_cell h hx).1, ?_⟩
  unfold Own at h
  obtain ⟨h1, h2⟩ := h
  rcases h2 with ⟨hv, _⟩ | ⟨g', cap', cur, hv, hb, hh, hnc, hcm, hcs, htk⟩
  · cases hv
  · injection hv with ha hb1 hc1
    injection ha with ha
    injection ha with ha
    subst ha
    simp [World.frozen?, hh]

theorem sorted_asc {xs : List Int} {d : Array Int} (hp : Go.Sort.PermIn 0 xs.toArray.size xs.toArray d) (hs : Go.Sort.SortedIn Go.Sort.ltInt 0 xs.toArray.size d) : d.size = xs.length ∧ d.toList = asc xs := by
  obtain ⟨h1, _, h2⟩ := hp
  have hsz : d.size = xs.length := by rw [h1]; simp
  refine ⟨hsz, asc_eq ?_ ?_⟩
  · unfold Asc
    rw [List.pairwise_iff_getElem]
    intro i j hi hj hij
    have := hs i j (Nat.zero_le _) hij (by simp at hj ⊢; omega)
    have hi' : i < d.size := by simpa using hi
    have hj' : j < d.size := by simpa using hj
    rw [getElem!_pos d i hi', getElem!_pos d j hj'] at this
    simp [Go.Sort.ltInt] at this
    simpa using this
  · have e1 : d.extract 0 xs.toArray.size = d := by simp [← hsz]
    rw [e1] at h2
    simpa using h2

end Go.Proofs.Ytiioojnoggcnmaa

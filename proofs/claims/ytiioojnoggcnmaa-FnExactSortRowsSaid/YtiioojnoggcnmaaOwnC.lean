/-
  What is proved here: rows of structs of integers of the call's own, seen as the flat list of their cells; no condition.
-/
import Derived.Test.YtiioojnoggcnmaaOutK
namespace Go.Proofs.Ytiioojnoggcnmaa
open Go.RowKit
set_option linter.unusedVariables false

/-- The slice at g has n elements of K cells; the cells read as cs. -/
def OwnC (K : Nat) (E : TypeId) (B : Nat) (w : World) (g n cap : Nat) (cs : List Int) : Prop := w.ownsRow B E K (.slice (some ⟨g, 0, none⟩) n cap) n (cs.map (Value.int .i64))

section
variable {K : Nat} {E : TypeId} {B g n cap : Nat} {w w' : World} {cs : List Int}
theorem OwnC.below (h : OwnC K E B w g n cap cs) (hb : Below w.heap.size w w') : OwnC K E B w' g n cap cs := World.ownsRow.kept h (below_grownBy hb none) (Classical.em _)
theorem OwnC.apart {g' : Nat} (h : OwnC K E B w g n cap cs) (hg : w.grownBy w' (some g')) (hne : g ≠ g') : OwnC K E B w' g n cap cs := World.ownsRow.kept h hg (.inr (by simp [Value.ownBlock]; exact hne))
theorem OwnC.lt (h : OwnC K E B w g n cap cs) : B ≤ g ∧ g < w.heap.size ∧ n ≤ cap ∧ cap ≤ maxLen ∧ cs.length = n * K := by
  have h0 := h.1
  rcases h.2 with ⟨h1, _⟩ | ⟨g', cap', cur, h1, hB, hg, h2, h3, _⟩
  · simp at h1
  · simp only [Value.slice.injEq, Option.some.injEq, Addr.mk.injEq, and_true] at h1
    obtain ⟨rfl, _, rfl⟩ := h1
    exact ⟨hB, (Array.getElem?_eq_some_iff.1 hg).1, h2, h3, by simpa using h0⟩
theorem OwnC.cell {j : Nat} {x : Int} (h : OwnC K E B w g n cap cs) (hj : cs[j]? = some x) : w.cell? ⟨g, j, none⟩ = some (.int .i64 x) ∧ w.frozen? ⟨g, j, none⟩ = false := by
  have hl : j < n * K := by rw [← h.lt.2.2.2.2]; exact (List.getElem?_eq_some_iff.1 hj).1
  exact ⟨(World.ownsRow.cellAt h j hl).trans (by simp [hj]), World.ownsRow.frozenAt h j⟩
theorem OwnC.set (h : OwnC K E B w g n cap cs) (j : Nat) (x : Int) : OwnC K E B (w.setCell ⟨g, j, none⟩ (.int .i64 x)) g n cap (cs.set j x) ∧ w.grownBy (w.setCell ⟨g, j, none⟩ (.int .i64 x)) (some g) := by
  have := World.ownsRow.stored h j (.int .i64 x)
  rw [← List.map_set] at this
  exact this
theorem OwnC.mono {B' : Nat} (h : OwnC K E B w g n cap cs) (hB : B' ≤ B) : OwnC K E B' w g n cap cs := by
  refine ⟨h.1, ?_⟩
  rcases h.2 with h2 | ⟨g, cap, cur, h1, hb, r⟩
  · exact .inl h2
  · exact .inr ⟨g, cap, cur, h1, by omega, r⟩
variable {α : Type} {enc : α → List Int} {xs : List α}
theorem OwnK.flat (h : OwnK K enc E B w (.slice (some ⟨g, 0, none⟩) n cap) xs) : OwnC K E B w g n cap (xs.flatMap enc) := by
  obtain ⟨_, _, rfl, _⟩ := h.lt
  exact h
theorem OwnC.rows (h : OwnC K E B w g n cap (xs.flatMap enc)) (hn : xs.length = n) : OwnK K enc E B w (.slice (some ⟨g, 0, none⟩) n cap) xs := by
  subst hn
  exact h
theorem flat_at (henc : ∀ a, (enc a).length = K) {i j : Nat} {a : α} {y : Int} (hi : xs[i]? = some a) (hj : (enc a)[j]? = some y) : (xs.flatMap enc)[i * K + j]? = some y := by
  have := cellsK_at henc hi hj
  unfold cellsK at this
  rw [List.getElem?_map] at this
  obtain ⟨z, h1, h2⟩ := Option.map_eq_some_iff.1 this
  injection h2 with _ h2
  rw [← h2]
  exact h1
theorem flat_len (henc : ∀ a, (enc a).length = K) : (xs.flatMap enc).length = xs.length * K := by
  have := cellsK_len henc xs
  unfold cellsK at this
  simpa using this
end

theorem made_zeros2 (m : Nat) : (madeCells (Value.agg #[.int .i64 0, .int .i64 0]).cells m).toList = List.replicate m (Value.int .i64 0) := by
  apply List.ext_getElem?
  intro j
  by_cases hj : j < m
  · have h2 : j % 2 = 0 ∨ j % 2 = 1 := by omega
    rcases h2 with h | h <;> simp [madeCells, hj, Value.cells, h]
  · simp [madeCells, hj]
theorem made_zeros3 (m : Nat) : (madeCells (Value.agg #[.int .i64 0, .int .i64 0, .int .i64 0]).cells m).toList = List.replicate m (Value.int .i64 0) := by
  apply List.ext_getElem?
  intro j
  by_cases hj : j < m
  · have h2 : j % 3 = 0 ∨ j % 3 = 1 ∨ j % 3 = 2 := by omega
    rcases h2 with h | h | h <;> simp [madeCells, hj, Value.cells, h]
  · simp [madeCells, hj]
/-- What a fill has written, up to k. -/
def filled {α : Type} (enc : α → List Int) (K : Nat) (xs : List α) (k : Nat) : List Int := (xs.take k).flatMap enc ++ List.replicate ((xs.length - k) * K) 0
theorem filled_step2 {xs : List (Int × Int)} {k : Nat} {p q : Int} (h : xs[k]? = some (p, q)) : ((filled enc2 2 xs k).set (k * 2) p).set (k * 2 + 1) q = filled enc2 2 xs (k + 1) := by
  have hk : k < xs.length := (List.getElem?_eq_some_iff.1 h).1
  have hl : ((xs.take k).flatMap enc2).length = k * 2 := by rw [flat_len len_enc2, List.length_take]; omega
  unfold filled
  rw [List.set_append_right _ _ (by omega), hl, List.set_append_right _ _ (by omega), hl, List.take_add_one, h]
  obtain ⟨r, hr⟩ : ∃ r, (xs.length - k) * 2 = r + 2 := ⟨(xs.length - k) * 2 - 2, by omega⟩
  rw [hr, show (xs.length - (k + 1)) * 2 = r by omega, show k * 2 - k * 2 = 0 by omega, show k * 2 + 1 - k * 2 = 1 by omega]
  simp [List.replicate_succ, enc2]
theorem filled_at {α : Type} {enc : α → List Int} {K : Nat} (henc : ∀ a, (enc a).length = K) {xs : List α} {k j : Nat} (hk : k < xs.length) (hj : j < K) : (filled enc K xs k)[k * K + j]? = some 0 := by
  have hl : ((xs.take k).flatMap enc).length = k * K := by rw [flat_len henc, List.length_take]; congr 1; omega
  unfold filled
  rw [List.getElem?_append_right (by omega), hl, List.getElem?_replicate, if_pos]
  have h1 : 1 * K ≤ (xs.length - k) * K := Nat.mul_le_mul_right K (by omega)
  omega
theorem filled_zero {α : Type} (enc : α → List Int) (K : Nat) (xs : List α) : filled enc K xs 0 = List.replicate (xs.length * K) 0 := by simp [filled]
theorem filled_end {α : Type} (enc : α → List Int) (K : Nat) (xs : List α) : filled enc K xs xs.length = xs.flatMap enc := by simp [filled]
theorem filled_step3 {xs : List (Int × Int × Int)} {k : Nat} {p q r : Int} (h : xs[k]? = some (p, q, r)) : (((filled enc3 3 xs k).set (k * 3) p).set (k * 3 + 1) q).set (k * 3 + 2) r = filled enc3 3 xs (k + 1) := by
  have hk : k < xs.length := (List.getElem?_eq_some_iff.1 h).1
  have hl : ((xs.take k).flatMap enc3).length = k * 3 := by rw [flat_len len_enc3, List.length_take]; omega
  unfold filled
  rw [List.set_append_right _ _ (by omega), hl, List.set_append_right _ _ (by omega), hl, List.set_append_right _ _ (by omega), hl, List.take_add_one, h]
  obtain ⟨s, hr⟩ : ∃ s, (xs.length - k) * 3 = s + 3 := ⟨(xs.length - k) * 3 - 3, by omega⟩
  rw [hr, show (xs.length - (k + 1)) * 3 = s by omega, show k * 3 - k * 3 = 0 by omega, show k * 3 + 1 - k * 3 = 1 by omega, show k * 3 + 2 - k * 3 = 2 by omega]
  simp [List.replicate_succ, enc3]

end Go.Proofs.Ytiioojnoggcnmaa

/-
  What is proved here: small facts on rows of integers of the call's own: where they lie, what their cells hold, and that parts of them can be the source of an append; no condition.
-/
import Derived.Test.YtiioojnoggcnmaaBase
import Derived.Test.YtiioojnoggcnmaaMem
import Derived.Test.YtiioojnoggcnmaaApp
namespace Go.Proofs.Ytiioojnoggcnmaa
open Go.RowKit
set_option linter.unusedVariables false

theorem below_drewN_self (w : World) (q : Nat) : Below w.heap.size w (w.drewN q) := ⟨rfl, rfl, rfl, Nat.le_refl _, fun _ _ => rfl⟩
theorem ints_ok : ElemOk Try.prog 22 3 1 8 := by
  obtain ⟨i0, hi, hz0, hz1, hz2⟩ := info_parts int_info
  exact ⟨Try.underlying22, by omega, i0, _, hi, hz0, hz1, hz2, rfl⟩

theorem own_box_ne {T E : TypeId} {B g cap n bl : Nat} {w : World} {L : List Int} {cs : Array Value} (h : Own E B w (.slice (some ⟨g, 0, none⟩) n cap) L) (hb : w.heap[bl]? = some (.cells cs T (0, 0))) (hne : E ≠ T) : bl ≠ g := by
  rintro rfl
  rcases h.2 with ⟨h0, _⟩ | ⟨g', cap', cur, h0, hB, hg, _⟩
  · simp at h0
  · simp only [Value.slice.injEq, Option.some.injEq, Addr.mk.injEq, and_true] at h0
    obtain ⟨rfl, _⟩ := h0
    rw [hb] at hg
    injection hg with hg
    injection hg with _ hg
    exact hne hg.symm
theorem own_lt {E : TypeId} {B g cap n : Nat} {w : World} {L : List Int} (h : Own E B w (.slice (some ⟨g, 0, none⟩) n cap) L) : B ≤ g ∧ g < w.heap.size ∧ L.length = n ∧ n ≤ cap ∧ cap ≤ maxLen := by
  rcases h.2 with ⟨h0, _⟩ | ⟨g', cap', cur, h0, hB, hg, h1, h2, _⟩
  · simp at h0
  · simp only [Value.slice.injEq, Option.some.injEq, Addr.mk.injEq, and_true] at h0
    obtain ⟨rfl, rfl, rfl⟩ := h0
    exact ⟨hB, (Array.getElem?_eq_some_iff.1 hg).1, rfl, h1, h2⟩
theorem own_cell {E : TypeId} {B g cap n k : Nat} {w : World} {L : List Int} {x : Int} (h : Own E B w (.slice (some ⟨g, 0, none⟩) n cap) L) (hk : L[k]? = some x) : w.cell? ⟨g, k, none⟩ = some (.int .i64 x) ∧ w.frozen? ⟨g, k, none⟩ = false := by
  obtain ⟨_, _, rfl, _⟩ := own_lt h
  have hl : k < L.length := (List.getElem?_eq_some_iff.1 hk).1
  unfold Own at h
  exact ⟨(h.cellAt k (by omega)).trans (by simp [hk]), h.frozenAt k⟩

theorem Own_base {E : TypeId} {B B' g cap n : Nat} {w : World} {xs : List Value} (h : w.ownsRow B E 1 (.slice (some ⟨g, 0, none⟩) n cap) n xs) (hB : B' ≤ B) : w.ownsRow B' E 1 (.slice (some ⟨g, 0, none⟩) n cap) n xs := by
  refine ⟨h.1, ?_⟩
  rcases h.2 with h2 | ⟨g, cap, cur, h3, hb, r⟩
  · exact .inl h2
  · exact .inr ⟨g, cap, cur, h3, by omega, r⟩
theorem oneCell_ints (l : List Int) : ∀ u ∈ l.map (Value.int .i64), u.oneCell' = true := by
  intro u hu
  obtain ⟨x, _, rfl⟩ := List.mem_map.1 hu
  rfl
theorem src_take {E : TypeId} {B g cap n : Nat} {w : World} {L : List Int} (h : Own E B w (.slice (some ⟨g, 0, none⟩) n cap) L) (i : Nat) (hi : i ≤ L.length) : Src w 1 (some ⟨g, 0, none⟩) i ((L.take i).map (Value.int .i64)) := by
  refine ⟨by simp; omega, oneCell_ints _, fun _ => ⟨_, rfl, fun j u hu => ?_⟩⟩
  rw [add_none, Nat.zero_add]
  rw [List.getElem?_map] at hu
  obtain ⟨x, hx, rfl⟩ := Option.map_eq_some_iff.1 hu
  rw [List.getElem?_take] at hx
  split at hx
  · exact (own_cell h hx).1
  · cases hx
theorem src_drop {E : TypeId} {B g cap n : Nat} {w : World} {L : List Int} (h : Own E B w (.slice (some ⟨g, 0, none⟩) n cap) L) (i : Nat) (hi : i ≤ L.length) :
    Src w 1 (if cap = i then some ⟨g, 0, none⟩ else some ⟨g, i, none⟩) (L.length - i) ((L.drop i).map (Value.int .i64)) := by
  obtain ⟨_, _, hl, hnc, _⟩ := own_lt h
  refine ⟨by simp, oneCell_ints _, fun hp => ?_⟩
  rw [if_neg (by omega)]
  refine ⟨_, rfl, fun j u hu => ?_⟩
  rw [add_none]
  rw [List.getElem?_map] at hu
  obtain ⟨x, hx, rfl⟩ := Option.map_eq_some_iff.1 hu
  rw [List.getElem?_drop] at hx
  exact (own_cell h hx).1

/-- A slice that reads as a list, as the source of an append. -/
theorem Ro.src {w : World} {A : Option Addr} {c n : Nat} {xs : List Int} (h : Ro w (.slice A n c) xs) : n = xs.length ∧ Src w 1 A n (xs.map (Value.int .i64)) := by
  obtain ⟨A', c', b, off, hv, h1, h2, h3, h4⟩ := h
  simp only [Value.slice.injEq] at hv
  obtain ⟨rfl, rfl, rfl⟩ := hv
  refine ⟨rfl, by simp, oneCell_ints _, fun hp => ?_⟩
  obtain ⟨rfl, _⟩ := h3 hp
  refine ⟨_, rfl, fun j u hu => ?_⟩
  rw [add_none]
  rw [List.getElem?_map] at hu
  obtain ⟨x, hx, rfl⟩ := Option.map_eq_some_iff.1 hu
  exact h4 j x hx

theorem slice_cap {A : Option Addr} {n c c' : Nat} (h : c = c') : Value.slice A n c = .slice A n c' := by rw [h]
theorem map_erase {α β : Type} (f : α → β) (l : List α) (i : Nat) : (l.eraseIdx i).map f = (l.map f).eraseIdx i := by
  rw [List.eraseIdx_eq_take_drop_succ, List.eraseIdx_eq_take_drop_succ, List.map_append, List.map_take, List.map_drop]

end Go.Proofs.Ytiioojnoggcnmaa

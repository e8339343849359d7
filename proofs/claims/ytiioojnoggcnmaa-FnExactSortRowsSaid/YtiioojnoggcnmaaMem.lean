/-
  What is proved here: small words for slices of integers in memory ('Ro': a slice value reads as a list; 'Own': it is a row of the call's own that reads as a list) and how an argument of the row is read as such; no condition.
-/
import Derived.WalkKit
import Derived.WalkSpells
import Derived.ProofKit
import Derived.OpenShut
import Derived.ChangeOld
import Derived.Below
import Derived.SizedLaws
namespace Go.Proofs.Ytiioojnoggcnmaa
open Go.RowKit Go.ChangeShapes Go.WideShapes Go.ChangeAt
set_option linter.unusedVariables false

/-- An integer as a value. -/
abbrev I (x : Int) : Value := .int .i64 x

/-- The slice value v reads as the list xs in w. -/
def Ro (w : World) (v : Value) (xs : List Int) : Prop :=
  ∃ (A : Option Addr) (c b off : Nat), v = .slice A xs.length c ∧ xs.length ≤ c ∧ c ≤ maxLen ∧ (0 < xs.length → A = some ⟨b, off, none⟩ ∧ b < w.heap.size) ∧
    ∀ k x, xs[k]? = some x → w.cell? ⟨b, off + k, none⟩ = some (.int .i64 x)

/-- The slice value v is a row of its own, in a block from B on, and reads as xs. E: the number of the type int. -/
def Own (E : TypeId) (B : Nat) (w : World) (v : Value) (xs : List Int) : Prop := w.ownsRow B E 1 v xs.length (xs.map (Value.int .i64))

theorem Ro.kept {w w' : World} {v : Value} {xs : List Int} (h : Ro w v xs) (hs : w.heap.size ≤ w'.heap.size) (hk : ∀ p : Addr, p.block < w.heap.size → w'.cell? p = w.cell? p) : Ro w' v xs := by
  obtain ⟨A, c, b, off, hv, h1, h2, h3, h4⟩ := h
  refine ⟨A, c, b, off, hv, h1, h2, fun hp => ⟨(h3 hp).1, by have := (h3 hp).2; omega⟩, fun k x hx => ?_⟩
  have hl : 0 < xs.length := by
    have := (List.getElem?_eq_some_iff.1 hx).1; omega
  exact (hk _ (h3 hl).2).trans (h4 k x hx)

theorem Ro.below {w w' : World} {v : Value} {xs : List Int} (h : Ro w v xs) (hb : Below w.heap.size w w') : Ro w' v xs := h.kept hb.size fun _ hp => hb.cell hp

theorem Own.ro {E : TypeId} {B : Nat} {w : World} {v : Value} {xs : List Int} (h : Own E B w v xs) : Ro w v xs := by
  rcases h.2 with ⟨rfl, hn⟩ | ⟨g, cap, cur, rfl, hB, hg, hnc, hcm, hcs, htk⟩
  · have : xs = [] := List.eq_nil_of_length_eq_zero hn
    subst this
    exact ⟨none, 0, 0, 0, rfl, Nat.le_refl _, Nat.zero_le _, fun h => absurd h (by simp), fun k x hx => by simp at hx⟩
  · have hlt : g < w.heap.size := (Array.getElem?_eq_some_iff.1 hg).1
    refine ⟨some ⟨g, 0, none⟩, cap, g, 0, rfl, hnc, hcm, fun _ => ⟨rfl, hlt⟩, fun k x hx => ?_⟩
    have hk : k < xs.length := (List.getElem?_eq_some_iff.1 hx).1
    rw [Nat.zero_add, cell_of_row w g k cur E (0, 0) hg]
    have h1 : (xs.map (Value.int .i64))[k]? = some (.int .i64 x) := by simp [hx]
    rw [← htk, List.getElem?_take, if_pos (by omega)] at h1
    simpa using h1

section
variable {H : Type} {enc : TypeId × Value → H} {P : Program}

/-- An argument that is a slice of integers: it reads as a list. -/
theorem open_ro {t e : TypeId} {W : World} {a : Option Addr} {len cap : Nat} {d : DataW H} {p : List MemPlace} (ht : P.underlying t = some (.slice e)) (he : P.underlying e = some (.int .i64)) (hc : P.cellsOf e = 1)
    (h : DataW.Trod enc P W 0 (fun _ => true) true t (.slice a len cap) d p) :
    ∃ xs : List Int, Ro W (.slice a len cap) xs ∧ (∀ x ∈ xs, (Lit.int .i64 x).wf = true) ∧ ((d = .nil ∧ xs = []) ∨ ∃ elems spare, d = .slice elems spare ∧ elems.length = xs.length) := by
  obtain ⟨fuel, hf⟩ := h
  rcases open_ints ht he hc hf with ⟨hcs, hx⟩ | ⟨x, l, c, zs, hcs, _, hl, hm, hz, hx, hcell, hwz⟩
  · simp [Value.cells] at hcs
    obtain ⟨rfl, rfl, rfl⟩ := hcs
    simp only [Prod.mk.injEq] at hx
    exact ⟨[], ⟨none, 0, 0, 0, rfl, Nat.le_refl _, Nat.zero_le _, fun h => absurd h (by simp), fun k x hx => by simp at hx⟩, fun x hx => by simp at hx, .inl ⟨hx.1, rfl⟩⟩
  · simp [Value.cells] at hcs
    obtain ⟨rfl, rfl, rfl⟩ := hcs
    have hzl : zs.length = cap := by simpa using hz
    have hlen : (zs.take len).length = len := by rw [List.length_take]; omega
    simp only [Prod.mk.injEq] at hx
    obtain ⟨b, off, spot⟩ := x
    refine ⟨zs.take len, ⟨some ⟨b, off, spot⟩, cap, b, off, by rw [hlen], by omega, hm, fun hp => ?_, fun k y hy => ?_⟩, fun x hx => hwz x (List.mem_of_mem_take hx), .inr ⟨_, _, hx.1, by simp [lits]⟩⟩
    · have hc0 := hcell 0 (by omega)
      have hspot : spot = none := by simpa [Addr.add] using World.cell?_spot hc0
      subst hspot
      exact ⟨rfl, World.block_lt_of_cell? _ _ (by simpa [Addr.add] using hc0)⟩
    · have hk : k < (zs.take len).length := (List.getElem?_eq_some_iff.1 hy).1
      have hck := hcell k (by omega)
      have hspot : spot = none := by
        have hc0 := hcell 0 (by omega)
        simpa [Addr.add] using World.cell?_spot hc0
      subst hspot
      rw [List.getElem?_take, if_pos (by omega)] at hy
      have he : zs.getD k 0 = y := by simp [List.getD, hy]
      rw [he] at hck
      have hadd : (⟨b, off, none⟩ : Addr).add k = ⟨b, off + k, none⟩ := by unfold Addr.add; split <;> simp_all
      rwa [hadd] at hck
end

/-- What a call has made: a new slice that reads as xs; nothing old has changed. -/
def Made (E : TypeId) (xs : List Int) (w : World) (e : Ending) (w' : World) : Prop := ∃ v, e = .returned v ∧ Own E w.heap.size w' v xs ∧ Below w.heap.size w w'

theorem fill_step {xs : List Int} {n k : Nat} {x : Int} (hn : xs.length = n) (hx : xs[k]? = some x) :
    ((xs.take k).map (Value.int .i64) ++ List.replicate (n - k) (Value.int .i64 0)).set k (.int .i64 x) = (xs.take (k + 1)).map (Value.int .i64) ++ List.replicate (n - (k + 1)) (.int .i64 0) := by
  have hk : k < xs.length := (List.getElem?_eq_some_iff.1 hx).1
  subst hn
  apply List.ext_getElem?
  intro j
  rw [List.getElem?_set]
  by_cases hj : k = j
  · subst hj
    rw [if_pos rfl, if_pos (by simp; omega), List.getElem?_append_left (by simp; omega), List.getElem?_map, List.getElem?_take, if_pos (by omega), hx]
    rfl
  · rw [if_neg hj]
    by_cases hlt : j < k
    · rw [List.getElem?_append_left (by simp; omega), List.getElem?_append_left (by simp; omega), List.getElem?_map, List.getElem?_map, List.getElem?_take, List.getElem?_take, if_pos hlt, if_pos (by omega)]
    · rw [List.getElem?_append_right (by simp; omega), List.getElem?_append_right (by simp; omega)]
      simp only [List.length_map, List.length_take, List.getElem?_replicate]
      rw [Nat.min_eq_left (by omega), Nat.min_eq_left (by omega)]
      by_cases h2 : j < xs.length
      · rw [if_pos (by omega), if_pos (by omega)]
      · rw [if_neg (by omega), if_neg (by omega)]

theorem fill_at {xs : List Int} {n k : Nat} (hn : xs.length = n) (hk : k < n) :
    ((xs.take k).map (Value.int .i64) ++ List.replicate (n - k) (Value.int .i64 0))[k]? = some (.int .i64 0) := by
  rw [List.getElem?_append_right (by simp; omega)]
  simp only [List.length_map, List.length_take]
  rw [Nat.min_eq_left (by omega)]
  simp [List.getElem?_replicate]
  omega

theorem below_grownBy {w w' : World} (hb : Below w.heap.size w w') (row : Option Nat) : w.grownBy w' row := ⟨hb.os, hb.tape, hb.output, hb.size, fun k hk _ => hb.block k hk⟩
theorem Own.below {E : TypeId} {B : Nat} {w w' : World} {v : Value} {xs : List Int} (h : Own E B w v xs) (hb : Below w.heap.size w w') : Own E B w' v xs :=
  World.ownsRow.kept h (below_grownBy hb none) (by cases hv : v.ownBlock <;> simp)
theorem Own.mono {E : TypeId} {B B' : Nat} {w : World} {v : Value} {xs : List Int} (h : Own E B w v xs) (hB : B' ≤ B) : Own E B' w v xs := by
  refine ⟨h.1, ?_⟩
  rcases h.2 with h2 | ⟨g, cap, cur, rfl, hb, r⟩
  · exact .inl h2
  · exact .inr ⟨g, cap, cur, rfl, by omega, r⟩
/-- The values from k on. -/
def marks (k : Int) (n : Nat) : List Int := (List.range n).map fun (i : Nat) => k + (i : Int)
theorem marks_at (k : Int) (n i : Nat) (h : i < n) : (marks k n)[i]? = some (k + (i : Int)) := by simp [marks, h]
theorem marks_len (k : Int) (n : Nat) : (marks k n).length = n := by simp [marks]
theorem marks_step (k : Int) (xs : List Int) (i : Nat) (h : i < xs.length) : (marks k i ++ xs.drop i).set i (k + (i : Int)) = marks k (i + 1) ++ xs.drop (i + 1) := by
  apply List.ext_getElem?
  intro j
  rw [List.getElem?_set]
  by_cases hj : i = j
  · subst hj
    rw [if_pos rfl, if_pos (by simp [marks_len]; omega), List.getElem?_append_left (by simp [marks_len]), marks_at _ _ _ (by omega)]
  · rw [if_neg hj]
    by_cases hlt : j < i
    · rw [List.getElem?_append_left (by simp [marks_len]; omega), List.getElem?_append_left (by simp [marks_len]; omega), marks_at _ _ _ hlt, marks_at _ _ _ (by omega)]
    · rw [List.getElem?_append_right (by simp [marks_len]; omega), List.getElem?_append_right (by simp [marks_len]; omega)]
      simp only [marks_len, List.getElem?_drop]
      congr 1
      omega
/-- A slice of the call's own that has been written: it reads as ys now; only its own block has changed. -/
def Wrote (E : TypeId) (B : Nat) (v : Value) (ys : List Int) (r : Int) (w : World) (e : Ending) (w' : World) : Prop :=
  e = .returned (.int .i64 r) ∧ Own E B w' v ys ∧ w.grownBy w' v.ownBlock

theorem Own.apart {E : TypeId} {B : Nat} {w w' : World} {u v : Value} {xs : List Int} (h : Own E B w u xs) (hg : w.grownBy w' v.ownBlock) (hne : ∀ k, u.ownBlock = some k → v.ownBlock = some k → False) : Own E B w' u xs :=
  World.ownsRow.kept h hg (by
    cases hu : u.ownBlock with
    | none => exact .inl rfl
    | some k => exact .inr (fun e => hne k hu e.symm))

end Go.Proofs.Ytiioojnoggcnmaa

/-
  What is proved here: a row of integers of the call's own that grows by append in a loop: what is known of it and of everything else in memory, round after round; no condition.
-/
import Derived.Test.YtiioojnoggcnmaaOwn
namespace Go.Proofs.Ytiioojnoggcnmaa
open Go.RowKit
set_option linter.unusedVariables false

/-- A row that grows by append in a loop that began in the world w4: it lay in the block g0 then; nothing else that lay in w4 has changed. -/
def Out (E : TypeId) (B g0 : Nat) (w4 wr : World) (g k cap : Nat) (L : List Int) : Prop :=
  L.length = k ∧ Own E B wr (.slice (some ⟨g, 0, none⟩) k cap) L ∧ (g = g0 ∨ w4.heap.size ≤ g) ∧ w4.grownBy wr (some g0)

theorem Out.start {E : TypeId} {B g0 : Nat} {w4 : World} (h : Own E B w4 (.slice (some ⟨g0, 0, none⟩) 0 0) []) : Out E B g0 w4 w4 g0 0 0 [] := ⟨rfl, h, .inl rfl, World.grownBy.refl _ _⟩
theorem Out.below {E : TypeId} {B g0 : Nat} {w4 wr w2 : World} {g k cap : Nat} {L : List Int} (h : Out E B g0 w4 wr g k cap L) (hb : Below wr.heap.size wr w2) : Out E B g0 w4 w2 g k cap L :=
  ⟨h.1, h.2.1.below hb, h.2.2.1, h.2.2.2.trans (below_grownBy hb _)⟩
theorem Out.row {E : TypeId} {B g0 : Nat} {w4 wr : World} {g k cap : Nat} {L : List Int} (h : Out E B g0 w4 wr g k cap L) : wr.ownsRow B E 1 (.slice (some ⟨g, 0, none⟩) k cap) k (L.map (Value.int .i64)) := by
  have := h.2.1
  unfold Own at this
  rwa [h.1] at this
theorem Out.lt {E : TypeId} {B g0 : Nat} {w4 wr : World} {g k cap : Nat} {L : List Int} (h : Out E B g0 w4 wr g k cap L) : B ≤ g ∧ g < wr.heap.size ∧ k ≤ cap ∧ cap ≤ maxLen ∧ w4.heap.size ≤ wr.heap.size := by
  obtain ⟨h1, h2, h3, h4, h5⟩ := own_lt h.2.1
  exact ⟨h1, h2, h4, h5, h.2.2.2.size⟩
theorem Out.app {E : TypeId} {B g0 : Nat} {w4 wr w5 : World} {g k cap g5 cap5 : Nat} {L : List Int} {x : Int} {o : Obj} (h : Out E B g0 w4 wr g k cap L)
    (hown : w5.ownsRow B E 1 (.slice (some ⟨g5, 0, none⟩) (k + 1) cap5) (k + 1) (L.map (Value.int .i64) ++ [.int .i64 x])) (hg : (wr.alloc o).grownBy w5 (some g)) (hat : g5 = g ∨ g5 = (wr.alloc o).heap.size) :
    Out E B g0 w4 w5 g5 (k + 1) cap5 (L ++ [x]) := by
  obtain ⟨h1, h2, h3, h4⟩ := h
  have hs := h4.size
  refine ⟨by rw [List.length_append, h1]; rfl, ?_, ?_, ?_⟩
  · unfold Own
    rw [List.length_append, h1, List.map_append]
    exact hown
  · rcases hat with e | e
    · rw [e]; exact h3
    · right; rw [e]; simp; omega
  · have e1 : w4.grownBy (wr.alloc o) (some g0) := h4.trans ⟨rfl, rfl, rfl, by simp, fun k hk _ => Below.heap_alloc _ _ _ hk⟩
    exact e1.andThen hg (fun j hj => by
      injection hj with hj
      subst hj
      rcases h3 with e | e
      · right; rw [e]
      · left; exact e)
theorem Out.belowW {E : TypeId} {B g0 : Nat} {w w4 wr : World} {g k cap : Nat} {L : List Int} (h : Out E B g0 w4 wr g k cap L) (hb : Below w.heap.size w w4) (hg0 : w.heap.size ≤ g0) : Below w.heap.size w wr :=
  hb.grown h.2.2.2 hb.size (fun k hk => by injection hk with hk; omega)
theorem Out.own {E E' : TypeId} {B B' g0 : Nat} {w4 wr : World} {g k cap : Nat} {L xs : List Int} {v : Value} (h : Out E B g0 w4 wr g k cap L) (hr : Own E' B' w4 v xs) (hlt : g0 < B') : Own E' B' wr v xs :=
  World.ownsRow.kept hr h.2.2.2 (by
    cases hv : v.ownBlock with
    | none => exact .inl rfl
    | some b => right; intro e; injection e with e; have := (World.ownsRow.lt hr b hv).1; omega)
theorem Out.made {E : TypeId} {g0 : Nat} {w w4 wr : World} {g k cap : Nat} {L ys : List Int} (h : Out E w.heap.size g0 w4 wr g k cap L) (hb : Below w.heap.size w w4) (hg0 : w.heap.size ≤ g0) (e : L = ys) :
    Made E ys w (.returned (.slice (some ⟨g, 0, none⟩) k cap)) wr := by
  subst e
  exact ⟨_, rfl, h.2.1, h.belowW hb hg0⟩
/-- The shape of a slice that reads as a list. -/
theorem Ro.shape {w : World} {v : Value} {l : List Int} (h : Ro w v l) : ∃ (A : Option Addr) (c b off : Nat), v = .slice A l.length c ∧ l.length ≤ c ∧ c ≤ maxLen ∧ (0 < l.length → A = some ⟨b, off, none⟩) ∧ ∀ k x, l[k]? = some x → w.cell? ⟨b, off + k, none⟩ = some (.int .i64 x) := by
  obtain ⟨A, c, b, off, h1, h2, h3, h4, h5⟩ := h
  exact ⟨A, c, b, off, h1, h2, h3, fun h => (h4 h).1, h5⟩
theorem ro_nil (w : World) : Ro w (.slice none 0 0) [] := ⟨none, 0, 0, 0, rfl, Nat.le_refl _, Nat.zero_le _, fun h => absurd h (by simp), fun k x hx => by simp at hx⟩
theorem filter_take {l : List Int} {p : Int → Bool} {j : Nat} {x : Int} (h : l[j]? = some x) : (l.take (j + 1)).filter p = (l.take j).filter p ++ (if p x = true then [x] else []) := by
  rw [List.take_add_one, h, List.filter_append]
  simp [List.filter_cons]
theorem map_take {α : Type} {l : List Int} {f : Int → α} {j : Nat} {x : Int} (h : l[j]? = some x) : (l.take (j + 1)).map f = (l.take j).map f ++ [f x] := by
  rw [List.take_add_one, h, List.map_append]
  rfl

end Go.Proofs.Ytiioojnoggcnmaa

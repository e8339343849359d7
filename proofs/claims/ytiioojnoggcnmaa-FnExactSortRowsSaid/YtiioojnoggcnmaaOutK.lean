/-
  What is proved here: rows of structs of integers of the call's own, and such a row that grows by append in a loop; no condition.
-/
import Derived.Test.YtiioojnoggcnmaaMemK
namespace Go.Proofs.Ytiioojnoggcnmaa
open Go.RowKit
set_option linter.unusedVariables false

section
variable {α : Type} {K : Nat} {enc : α → List Int}

/-- The cells of a list. -/
def cellsK (enc : α → List Int) (xs : List α) : List Value := (xs.flatMap enc).map (Value.int .i64)
theorem cellsK_append (xs ys : List α) : cellsK enc (xs ++ ys) = cellsK enc xs ++ cellsK enc ys := by simp [cellsK]
theorem cellsK_len (henc : ∀ a, (enc a).length = K) (xs : List α) : (cellsK enc xs).length = xs.length * K := by
  induction xs with
  | nil => simp [cellsK]
  | cons a r ih =>
    have : cellsK enc (a :: r) = (enc a).map (Value.int .i64) ++ cellsK enc r := by simp [cellsK]
    rw [this, List.length_append, List.length_map, henc, ih, List.length_cons, Nat.add_mul]
    omega
theorem cellsK_at (henc : ∀ a, (enc a).length = K) {xs : List α} {i j : Nat} {a : α} {y : Int} (hi : xs[i]? = some a) (hj : (enc a)[j]? = some y) : (cellsK enc xs)[i * K + j]? = some (.int .i64 y) := by
  induction xs generalizing i with
  | nil => simp at hi
  | cons b r ih =>
    have e : cellsK enc (b :: r) = (enc b).map (Value.int .i64) ++ cellsK enc r := by simp [cellsK]
    have hjl : j < (enc a).length := (List.getElem?_eq_some_iff.1 hj).1
    rw [henc] at hjl
    cases i with
    | zero =>
      simp at hi
      subst hi
      rw [e, Nat.zero_mul, Nat.zero_add, List.getElem?_append_left (by rw [List.length_map, henc]; exact hjl), List.getElem?_map, hj]
      rfl
    | succ i =>
      rw [e, List.getElem?_append_right (by rw [List.length_map, henc, Nat.add_mul]; omega), List.length_map, henc]
      have : (i + 1) * K + j - K = i * K + j := by rw [Nat.add_mul]; omega
      rw [this]
      exact ih (by simpa using hi)
theorem oneCellK (xs : List α) : ∀ u ∈ cellsK enc xs, u.oneCell' = true := oneCell_ints _

/-- The slice value v is a row of its own, in a block from B on, and reads as xs. -/
def OwnK (K : Nat) (enc : α → List Int) (E : TypeId) (B : Nat) (w : World) (v : Value) (xs : List α) : Prop := w.ownsRow B E K v xs.length (cellsK enc xs)
theorem OwnK.below {E : TypeId} {B : Nat} {w w' : World} {v : Value} {xs : List α} (h : OwnK K enc E B w v xs) (hb : Below w.heap.size w w') : OwnK K enc E B w' v xs :=
  World.ownsRow.kept h (below_grownBy hb none) (by cases hv : v.ownBlock <;> simp)
theorem OwnK.mono {E : TypeId} {B B' : Nat} {w : World} {v : Value} {xs : List α} (h : OwnK K enc E B w v xs) (hB : B' ≤ B) : OwnK K enc E B' w v xs := by
  refine ⟨h.1, ?_⟩
  rcases h.2 with h2 | ⟨g, cap, cur, rfl, hb, r⟩
  · exact .inl h2
  · exact .inr ⟨g, cap, cur, rfl, by omega, r⟩
theorem OwnK.ro (henc : ∀ a, (enc a).length = K) {E : TypeId} {B : Nat} {w : World} {v : Value} {xs : List α} (h : OwnK K enc E B w v xs) : RoK K w v (xs.map enc) := by
  rcases h.2 with ⟨rfl, hn⟩ | ⟨g, cap, cur, rfl, hB, hg, hnc, hcm, hcs, htk⟩
  · have : xs = [] := List.eq_nil_of_length_eq_zero hn
    subst this
    exact ⟨none, 0, 0, 0, rfl, Nat.le_refl _, Nat.zero_le _, fun h => absurd h (by simp), fun i x j y hx => by simp at hx⟩
  · have hlt : g < w.heap.size := (Array.getElem?_eq_some_iff.1 hg).1
    refine ⟨some ⟨g, 0, none⟩, cap, g, 0, by rw [List.length_map], by rw [List.length_map]; exact hnc, hcm, fun _ => ⟨rfl, hlt⟩, fun i x j y hx hj hy => ?_⟩
    rw [List.getElem?_map] at hx
    obtain ⟨a, ha, rfl⟩ := Option.map_eq_some_iff.1 hx
    have h1 := cellsK_at henc ha hy
    rw [Nat.zero_add, cell_of_row w g (i * K + j) cur E (0, 0) hg]
    rw [← htk, List.getElem?_take] at h1
    split at h1
    · simpa using h1
    · cases h1
theorem OwnK.lt {E : TypeId} {B g cap n : Nat} {w : World} {L : List α} (h : OwnK K enc E B w (.slice (some ⟨g, 0, none⟩) n cap) L) : B ≤ g ∧ g < w.heap.size ∧ L.length = n ∧ n ≤ cap ∧ cap ≤ maxLen := by
  rcases h.2 with ⟨h0, _⟩ | ⟨g', cap', cur, h0, hB, hg, h1, h2, _⟩
  · simp at h0
  · simp only [Value.slice.injEq, Option.some.injEq, Addr.mk.injEq, and_true] at h0
    obtain ⟨rfl, rfl, rfl⟩ := h0
    exact ⟨hB, (Array.getElem?_eq_some_iff.1 hg).1, rfl, h1, h2⟩
theorem OwnK.shape {E : TypeId} {B : Nat} {w : World} {v : Value} {l : List α} (h : OwnK K enc E B w v l) : ∃ (A : Option Addr) (c g : Nat), v = .slice A l.length c ∧ l.length ≤ c ∧ c ≤ maxLen ∧ (0 < l.length → A = some ⟨g, 0, none⟩) := by
  rcases h.2 with ⟨h0, h1⟩ | ⟨g, cap, cur, h0, hB, hg, h1, h2, _⟩
  · exact ⟨none, 0, 0, by rw [h0, h1], by omega, Nat.zero_le _, fun h => by omega⟩
  · exact ⟨_, cap, g, h0, h1, h2, fun _ => rfl⟩
/-- What a call has made. -/
def MadeK (K : Nat) (enc : α → List Int) (E : TypeId) (xs : List α) (w : World) (e : Ending) (w' : World) : Prop := ∃ v, e = .returned v ∧ OwnK K enc E w.heap.size w' v xs ∧ Below w.heap.size w w'

/-- A row that grows by append in a loop that began in the world w4: it lay in the block g0 then; nothing else that lay in w4 has changed. -/
def OutK (K : Nat) (enc : α → List Int) (E : TypeId) (B g0 : Nat) (w4 wr : World) (g k cap : Nat) (L : List α) : Prop :=
  L.length = k ∧ OwnK K enc E B wr (.slice (some ⟨g, 0, none⟩) k cap) L ∧ (g = g0 ∨ w4.heap.size ≤ g) ∧ w4.grownBy wr (some g0)
theorem OutK.start {E : TypeId} {B g0 : Nat} {w4 : World} (h : OwnK K enc E B w4 (.slice (some ⟨g0, 0, none⟩) 0 0) []) : OutK K enc E B g0 w4 w4 g0 0 0 [] := ⟨rfl, h, .inl rfl, World.grownBy.refl _ _⟩
theorem OutK.below {E : TypeId} {B g0 : Nat} {w4 wr w2 : World} {g k cap : Nat} {L : List α} (h : OutK K enc E B g0 w4 wr g k cap L) (hb : Below wr.heap.size wr w2) : OutK K enc E B g0 w4 w2 g k cap L :=
  ⟨h.1, h.2.1.below hb, h.2.2.1, h.2.2.2.trans (below_grownBy hb _)⟩
theorem OutK.row {E : TypeId} {B g0 : Nat} {w4 wr : World} {g k cap : Nat} {L : List α} (h : OutK K enc E B g0 w4 wr g k cap L) : wr.ownsRow B E K (.slice (some ⟨g, 0, none⟩) k cap) k (cellsK enc L) := by
  have := h.2.1
  unfold OwnK at this
  rwa [h.1] at this
theorem OutK.lt {E : TypeId} {B g0 : Nat} {w4 wr : World} {g k cap : Nat} {L : List α} (h : OutK K enc E B g0 w4 wr g k cap L) : B ≤ g ∧ g < wr.heap.size ∧ k ≤ cap ∧ cap ≤ maxLen ∧ w4.heap.size ≤ wr.heap.size := by
  obtain ⟨h1, h2, h3, h4, h5⟩ := h.2.1.lt
  exact ⟨h1, h2, h4, h5, h.2.2.2.size⟩
theorem OutK.app {E : TypeId} {B g0 : Nat} {w4 wr w5 : World} {g k cap g5 cap5 : Nat} {L : List α} {x : α} {o : Obj} (h : OutK K enc E B g0 w4 wr g k cap L)
    (hown : w5.ownsRow B E K (.slice (some ⟨g5, 0, none⟩) (k + 1) cap5) (k + 1) (cellsK enc L ++ (enc x).map (Value.int .i64))) (hg : (wr.alloc o).grownBy w5 (some g)) (hat : g5 = g ∨ g5 = (wr.alloc o).heap.size) :
    OutK K enc E B g0 w4 w5 g5 (k + 1) cap5 (L ++ [x]) := by
  obtain ⟨h1, h2, h3, h4⟩ := h
  have hs := h4.size
  refine ⟨by rw [List.length_append, h1]; rfl, ?_, ?_, ?_⟩
  · unfold OwnK
    rw [List.length_append, h1, cellsK_append]
    have e : cellsK enc [x] = (enc x).map (Value.int .i64) := by simp [cellsK]
    rw [e]
    exact hown
  · rcases hat with e | e
    · rw [e]; exact h3
    · right; rw [e]; simp; omega
  · have e1 : w4.grownBy (wr.alloc o) (some g0) := h4.trans ⟨rfl, rfl, rfl, by simp, fun k hk _ => Below.heap_alloc _ _ _ hk⟩
    exact e1.andThen hg (fun j hj => by
      injection hj with hj
      subst hj
      rcases h3 with e | e
      · right; rw [e]
      · left; exact e)
theorem OutK.belowW {E : TypeId} {B g0 : Nat} {w w4 wr : World} {g k cap : Nat} {L : List α} (h : OutK K enc E B g0 w4 wr g k cap L) (hb : Below w.heap.size w w4) (hg0 : w.heap.size ≤ g0) : Below w.heap.size w wr :=
  hb.grown h.2.2.2 hb.size (fun k hk => by injection hk with hk; omega)
theorem OutK.ownK {β : Type} {K' : Nat} {enc' : β → List Int} {E E' : TypeId} {B B' g0 : Nat} {w4 wr : World} {g k cap : Nat} {L : List α} {xs : List β} {v : Value} (h : OutK K enc E B g0 w4 wr g k cap L) (hr : OwnK K' enc' E' B' w4 v xs) (hlt : g0 < B') : OwnK K' enc' E' B' wr v xs :=
  World.ownsRow.kept hr h.2.2.2 (by
    cases hv : v.ownBlock with
    | none => exact .inl rfl
    | some b => right; intro e; injection e with e; have := (World.ownsRow.lt hr b hv).1; omega)
theorem OutK.own {E E' : TypeId} {B B' g0 : Nat} {w4 wr : World} {g k cap : Nat} {L : List α} {xs : List Int} {v : Value} (h : OutK K enc E B g0 w4 wr g k cap L) (hr : Own E' B' w4 v xs) (hlt : g0 < B') : Own E' B' wr v xs :=
  World.ownsRow.kept hr h.2.2.2 (by
    cases hv : v.ownBlock with
    | none => exact .inl rfl
    | some b => right; intro e; injection e with e; have := (World.ownsRow.lt hr b hv).1; omega)
theorem OutK.made {E : TypeId} {g0 : Nat} {w w4 wr : World} {g k cap : Nat} {L ys : List α} (h : OutK K enc E w.heap.size g0 w4 wr g k cap L) (hb : Below w.heap.size w w4) (hg0 : w.heap.size ≤ g0) (e : L = ys) :
    MadeK K enc E ys w (.returned (.slice (some ⟨g, 0, none⟩) k cap)) wr := by
  subst e
  exact ⟨_, rfl, h.2.1, h.belowW hb hg0⟩
/-- What a call has made: a new slice, not nil. -/
def MadeKS (K : Nat) (enc : α → List Int) (E : TypeId) (xs : List α) (w : World) (e : Ending) (w' : World) : Prop :=
  ∃ g k cap, e = .returned (.slice (some ⟨g, 0, none⟩) k cap) ∧ OwnK K enc E w.heap.size w' (.slice (some ⟨g, 0, none⟩) k cap) xs ∧ Below w.heap.size w w'
theorem MadeKS.made {E : TypeId} {xs : List α} {w w' : World} {e : Ending} (h : MadeKS K enc E xs w e w') : MadeK K enc E xs w e w' := by
  obtain ⟨g, k, cap, h1, h2, h3⟩ := h
  exact ⟨_, h1, h2, h3⟩
theorem OutK.madeS {E : TypeId} {g0 : Nat} {w w4 wr : World} {g k cap : Nat} {L ys : List α} (h : OutK K enc E w.heap.size g0 w4 wr g k cap L) (hb : Below w.heap.size w w4) (hg0 : w.heap.size ≤ g0) (e : L = ys) :
    MadeKS K enc E ys w (.returned (.slice (some ⟨g, 0, none⟩) k cap)) wr := by
  subst e
  exact ⟨_, _, _, rfl, h.2.1, h.belowW hb hg0⟩
end
theorem Out.ownK {β : Type} {K' : Nat} {enc' : β → List Int} {E E' : TypeId} {B B' g0 : Nat} {w4 wr : World} {g k cap : Nat} {L : List Int} {xs : List β} {v : Value} (h : Out E B g0 w4 wr g k cap L) (hr : OwnK K' enc' E' B' w4 v xs) (hlt : g0 < B') : OwnK K' enc' E' B' wr v xs :=
  World.ownsRow.kept hr h.2.2.2 (by
    cases hv : v.ownBlock with
    | none => exact .inl rfl
    | some b => right; intro e; injection e with e; have := (World.ownsRow.lt hr b hv).1; omega)
theorem len_enc2 (a : Int × Int) : (enc2 a).length = 2 := rfl
theorem len_enc3 (a : Int × Int × Int) : (enc3 a).length = 3 := rfl
theorem OwnK.ros2 {E : TypeId} {B : Nat} {w : World} {v : Value} {xs : List (Int × Int)} (h : OwnK 2 enc2 E B w v xs) : Ros2 w v xs := h.ro len_enc2
theorem OwnK.ros3 {E : TypeId} {B : Nat} {w : World} {v : Value} {xs : List (Int × Int × Int)} (h : OwnK 3 enc3 E B w v xs) : Ros3 w v xs := h.ro len_enc3
theorem ros2_nil (w : World) : Ros2 w (.slice none 0 0) [] := ⟨none, 0, 0, 0, rfl, Nat.le_refl _, Nat.zero_le _, fun h => absurd h (by simp), fun i x j y hx => by simp at hx⟩
theorem ros3_nil (w : World) : Ros3 w (.slice none 0 0) [] := ⟨none, 0, 0, 0, rfl, Nat.le_refl _, Nat.zero_le _, fun h => absurd h (by simp), fun i x j y hx => by simp at hx⟩
/-- A slice of structs as the source of an append. -/
theorem RoK.src {α : Type} {K : Nat} {enc : α → List Int} (henc : ∀ a, (enc a).length = K) {w : World} {A : Option Addr} {c n : Nat} {xs : List α} (hK : 0 < K) (h : RoK K w (.slice A n c) (xs.map enc)) : n = xs.length ∧ Src w K A n (cellsK enc xs) := by
  obtain ⟨A', c', b, off, hv, h1, h2, h3, h4⟩ := h
  simp only [Value.slice.injEq, List.length_map] at hv h3 h1
  obtain ⟨rfl, rfl, rfl⟩ := hv
  refine ⟨rfl, cellsK_len henc xs, oneCellK _, fun hp => ?_⟩
  obtain ⟨rfl, _⟩ := h3 hp
  refine ⟨_, rfl, fun j u hu => ?_⟩
  rw [add_none]
  have hjl : j < xs.length * K := by rw [← cellsK_len henc xs]; exact (List.getElem?_eq_some_iff.1 hu).1
  have hdm := Nat.div_add_mod' j K
  have hi : j / K < xs.length := Nat.div_lt_of_lt_mul (by rw [Nat.mul_comm]; exact hjl)
  have hm : j % K < K := Nat.mod_lt _ hK
  have hx : xs[j / K]? = some xs[j / K] := List.getElem?_eq_getElem hi
  have hy : (enc xs[j / K])[j % K]? = some ((enc xs[j / K])[j % K]'(by rw [henc]; exact hm)) := List.getElem?_eq_getElem _
  have h5 := cellsK_at henc hx hy
  rw [hdm] at h5
  rw [h5] at hu
  injection hu with hu
  rw [← hu]
  have := h4 (j / K) _ (j % K) _ (by rw [List.getElem?_map, hx]; rfl) hm hy
  rwa [Nat.add_assoc, hdm] at this

end Go.Proofs.Ytiioojnoggcnmaa

/-
  What is proved here: slices of structs of integers in memory ('RoK': a slice value reads as a list of rows of K integers; pairs and triples), and how an argument of the row is read as such; no condition.
-/
import Derived.Test.YtiioojnoggcnmaaWf
import Derived.Deep.Slices
import Derived.Deep.Fields
import Derived.ChangeSame
namespace Go.Proofs.Ytiioojnoggcnmaa
open Go.RowKit Go.ChangeShapes Go.WideShapes Go.Deep
set_option linter.unusedVariables false

/-- The slice value v reads as the list xs of rows of K integers in w. -/
def RoK (K : Nat) (w : World) (v : Value) (xs : List (List Int)) : Prop :=
  ∃ (A : Option Addr) (c b off : Nat), v = .slice A xs.length c ∧ xs.length ≤ c ∧ c ≤ maxLen ∧ (0 < xs.length → A = some ⟨b, off, none⟩ ∧ b < w.heap.size) ∧
    ∀ i x j y, xs[i]? = some x → j < K → x[j]? = some y → w.cell? ⟨b, off + i * K + j, none⟩ = some (.int .i64 y)

theorem RoK.kept {K : Nat} {w w' : World} {v : Value} {xs : List (List Int)} (h : RoK K w v xs) (hs : w.heap.size ≤ w'.heap.size) (hk : ∀ p : Addr, p.block < w.heap.size → w'.cell? p = w.cell? p) : RoK K w' v xs := by
  obtain ⟨A, c, b, off, hv, h1, h2, h3, h4⟩ := h
  refine ⟨A, c, b, off, hv, h1, h2, fun hp => ⟨(h3 hp).1, by have := (h3 hp).2; omega⟩, fun i x j y hx hj hy => ?_⟩
  have hl : 0 < xs.length := by have := (List.getElem?_eq_some_iff.1 hx).1; omega
  exact (hk _ (h3 hl).2).trans (h4 i x j y hx hj hy)

def enc2 (p : Int × Int) : List Int := [p.1, p.2]
def enc3 (p : Int × Int × Int) : List Int := [p.1, p.2.1, p.2.2]
/-- A slice of structs of two integers. -/
def Ros2 (w : World) (v : Value) (xs : List (Int × Int)) : Prop := RoK 2 w v (xs.map enc2)
/-- A slice of structs of three integers. -/
def Ros3 (w : World) (v : Value) (xs : List (Int × Int × Int)) : Prop := RoK 3 w v (xs.map enc3)

theorem Ros2.below {w w' : World} {v : Value} {xs : List (Int × Int)} (h : Ros2 w v xs) (hb : Below w.heap.size w w') : Ros2 w' v xs := RoK.kept h hb.size fun _ hp => hb.cell hp
theorem Ros3.below {w w' : World} {v : Value} {xs : List (Int × Int × Int)} (h : Ros3 w v xs) (hb : Below w.heap.size w w') : Ros3 w' v xs := RoK.kept h hb.size fun _ hp => hb.cell hp
theorem Ros2.shape {w : World} {v : Value} {l : List (Int × Int)} (h : Ros2 w v l) : ∃ (A : Option Addr) (c b off : Nat), v = .slice A l.length c ∧ l.length ≤ c ∧ c ≤ maxLen ∧ True ∧ True := by
  obtain ⟨A, c, b, off, h1, h2, h3, h4, h5⟩ := h
  rw [List.length_map] at h1 h2
  exact ⟨A, c, b, off, h1, h2, h3, trivial, trivial⟩
theorem Ros3.shape {w : World} {v : Value} {l : List (Int × Int × Int)} (h : Ros3 w v l) : ∃ (A : Option Addr) (c b off : Nat), v = .slice A l.length c ∧ l.length ≤ c ∧ c ≤ maxLen ∧ True ∧ True := by
  obtain ⟨A, c, b, off, h1, h2, h3, h4, h5⟩ := h
  rw [List.length_map] at h1 h2
  exact ⟨A, c, b, off, h1, h2, h3, trivial, trivial⟩
theorem Ros2.at {w : World} {A : Option Addr} {n c k : Nat} {xs : List (Int × Int)} {x y : Int} (h : Ros2 w (.slice A n c) xs) (hk : xs[k]? = some (x, y)) :
    ∃ b off, A = some ⟨b, off, none⟩ ∧ w.cell? ⟨b, off + k * 2, none⟩ = some (.int .i64 x) ∧ w.cell? ⟨b, off + k * 2 + 1, none⟩ = some (.int .i64 y) ∧ b < w.heap.size := by
  obtain ⟨A', c', b, off, h1, h2, h3, h4, h5⟩ := h
  simp only [Value.slice.injEq] at h1
  obtain ⟨rfl, rfl, rfl⟩ := h1
  have hk' : (xs.map enc2)[k]? = some [x, y] := by rw [List.getElem?_map, hk]; rfl
  have hl : 0 < (xs.map enc2).length := by have := (List.getElem?_eq_some_iff.1 hk').1; omega
  obtain ⟨rfl, hb⟩ := h4 hl
  exact ⟨b, off, rfl, h5 k _ 0 x hk' (by omega) rfl, h5 k _ 1 y hk' (by omega) rfl, hb⟩
theorem Ros3.at {w : World} {A : Option Addr} {n c k : Nat} {xs : List (Int × Int × Int)} {x y z : Int} (h : Ros3 w (.slice A n c) xs) (hk : xs[k]? = some (x, y, z)) :
    ∃ b off, A = some ⟨b, off, none⟩ ∧ w.cell? ⟨b, off + k * 3, none⟩ = some (.int .i64 x) ∧ w.cell? ⟨b, off + k * 3 + 1, none⟩ = some (.int .i64 y) ∧ w.cell? ⟨b, off + k * 3 + 2, none⟩ = some (.int .i64 z) ∧ b < w.heap.size := by
  obtain ⟨A', c', b, off, h1, h2, h3, h4, h5⟩ := h
  simp only [Value.slice.injEq] at h1
  obtain ⟨rfl, rfl, rfl⟩ := h1
  have hk' : (xs.map enc3)[k]? = some [x, y, z] := by rw [List.getElem?_map, hk]; rfl
  have hl : 0 < (xs.map enc3).length := by have := (List.getElem?_eq_some_iff.1 hk').1; omega
  obtain ⟨rfl, hb⟩ := h4 hl
  exact ⟨b, off, rfl, h5 k _ 0 x hk' (by omega) rfl, h5 k _ 1 y hk' (by omega) rfl, h5 k _ 2 z hk' (by omega) rfl, hb⟩

/-- Are all fields integers of one cell? -/
def allInts (P : Program) (fs : Array Field) : Bool := (List.range fs.size).all fun i => match fs[i]? with
  | some f => f.offset == i && P.cellsOf f.type == 1 && (match P.underlying f.type with | some (.int .i64) => true | _ => false)
  | none => false
theorem allInts_at {P : Program} {fs : Array Field} (h : allInts P fs = true) {i : Nat} {f : Field} (hf : fs[i]? = some f) : f.offset = i ∧ P.cellsOf f.type = 1 ∧ P.underlying f.type = some (.int .i64) := by
  have hi : i < fs.size := (Array.getElem?_eq_some_iff.1 hf).1
  unfold allInts at h
  rw [List.all_eq_true] at h
  have := h i (List.mem_range.2 hi)
  rw [hf] at this
  simp only [Bool.and_eq_true, beq_iff_eq] at this
  refine ⟨this.1.1, this.1.2, ?_⟩
  have h3 := this.2
  split at h3
  · assumption
  · cases h3

theorem list_of {α : Type} {p : Nat → α → Prop} (n : Nat) (h : ∀ i, i < n → ∃ a, p i a) : ∃ l : List α, l.length = n ∧ ∀ i a, l[i]? = some a → p i a := by
  induction n with
  | zero => exact ⟨[], rfl, fun i a h => by simp at h⟩
  | succ n ih =>
    obtain ⟨l, hl, hp⟩ := ih (fun i hi => h i (by omega))
    obtain ⟨a, ha⟩ := h n (by omega)
    refine ⟨l ++ [a], by simp [hl], fun i b hb => ?_⟩
    by_cases hi : i < l.length
    · rw [List.getElem?_append_left hi] at hb
      exact hp i b hb
    · rw [List.getElem?_append_right (by omega)] at hb
      have : i - l.length = 0 := by
        have := (List.getElem?_eq_some_iff.1 hb).1
        simp at this
        omega
      rw [this] at hb
      simp at hb
      subst hb
      have : i = n := by omega
      subst this
      exact ha

section
variable {H : Type} {enc : TypeId × Value → H} {P : Program}
/-- An argument that is a slice of structs of integers. -/
theorem open_rosK {t e : TypeId} {fs : Array Field} {W : World} {a : Option Addr} {len cap : Nat} {d : DataW H} {p : List MemPlace} (ht : P.underlying t = some (.slice e)) (he : P.underlying e = some (.struct fs)) (hi : allInts P fs = true) (hC : P.cellsOf e = fs.size) (hf0 : 0 < fs.size)
    (h : DataW.Trod enc P W 0 (fun _ => true) true t (.slice a len cap) d p) :
    ∃ xs : List (List Int), RoK fs.size W (.slice a len cap) xs ∧ (∀ x ∈ xs, x.length = fs.size ∧ ∀ y ∈ x, (Lit.int .i64 y).wf = true) ∧ ((d = .nil ∧ xs = []) ∨ ∃ elems spare, d = .slice elems spare ∧ elems.length = xs.length) := by
  obtain ⟨fuel, hf⟩ := h
  rcases open_slice ht hf with ⟨hcs, hx⟩ | ⟨x, l, c, m, n, D, Pl, hcs, _, hl, hm, hmm, hx, hel⟩
  · simp [Value.cells] at hcs
    obtain ⟨rfl, rfl, rfl⟩ := hcs
    simp only [Prod.mk.injEq] at hx
    exact ⟨[], ⟨none, 0, 0, 0, rfl, Nat.le_refl _, Nat.zero_le _, fun h => absurd h (by simp), fun i x j y hx => by simp at hx⟩, fun x hx => by simp at hx, .inl ⟨hx.1, rfl⟩⟩
  · simp [Value.cells] at hcs
    obtain ⟨rfl, rfl, rfl⟩ := hcs
    simp only [if_true] at hmm
    subst hmm
    rw [hC] at hel
    obtain ⟨b, off, spot⟩ := x
    have hone : ∀ i, i < len → ∃ z : List Int, (z.length = fs.size ∧ ∀ y ∈ z, (Lit.int .i64 y).wf = true) ∧ ∀ j y, z[j]? = some y → W.cell? ((⟨b, off, spot⟩ : Addr).add (i * fs.size + j)) = some (.int .i64 y) := by
      intro i hil
      obtain ⟨cs', hc, ht'⟩ := hel i (by omega)
      obtain ⟨ys, n', hn', hy, hlen, hyl, hfl⟩ := DataW.trod_struct he ht'
      obtain ⟨_, hcl, hat⟩ := World.cells?_some hc
      have hfld : ∀ j, j < fs.size → ∃ y : Int, cs'[j]? = some (.int .i64 y) ∧ (Lit.int .i64 y).wf = true := by
        intro j hj
        have hfj : fs[j]? = some fs[j] := Array.getElem?_eq_getElem hj
        obtain ⟨o1, o2, o3⟩ := allInts_at hi hfj
        have h1 := hfl j _ hfj
        rw [o1, o2] at h1
        have hys : ys[j]? = some (ys[j]'(by omega)) := List.getElem?_eq_getElem (by omega)
        rw [hys] at h1
        obtain ⟨y, hy1, _, hy3⟩ := DataW.trod_int o3 h1
        refine ⟨y, ?_, hy3⟩
        have h5 : ((cs'.drop j).take 1)[0]? = some (Value.int .i64 y) := by rw [hy1]; rfl
        rw [List.getElem?_take, if_pos (by omega), List.getElem?_drop] at h5
        exact h5
      obtain ⟨z, hz, hzp⟩ := list_of (p := fun j (y : Int) => cs'[j]? = some (.int .i64 y) ∧ (Lit.int .i64 y).wf = true) fs.size hfld
      refine ⟨z, ⟨hz, fun y hy => ?_⟩, fun j y hjy => ?_⟩
      · obtain ⟨j, hj, rfl⟩ := List.mem_iff_getElem.1 hy
        exact (hzp j _ (List.getElem?_eq_getElem hj)).2
      · have hjl : j < fs.size := by rw [← hz]; exact (List.getElem?_eq_some_iff.1 hjy).1
        have := hat j hjl
        rw [(hzp j y hjy).1, add_add] at this
        exact this
    obtain ⟨zs, hzl, hzp⟩ := list_of len hone
    simp only [Prod.mk.injEq] at hx
    have hspot : 0 < len → 0 < fs.size → spot = none := by
      intro hl0 hf0
      obtain ⟨z, hz1, hz2⟩ := hone 0 hl0
      have hz0 : z[0]? = some (z[0]'(by omega)) := List.getElem?_eq_getElem _
      have := World.cell?_spot (hz2 0 _ hz0)
      simpa [Addr.add] using this
    have hadd : ∀ k, (⟨b, off, none⟩ : Addr).add k = ⟨b, off + k, none⟩ := add_none b off
    refine ⟨zs, ⟨some ⟨b, off, spot⟩, m, b, off, by rw [hzl], by omega, hm, fun hp => ?_, fun i x j y hxi hj hxy => ?_⟩, fun x hx => ?_, .inr ⟨_, _, hx.1, by simp [hzl]⟩⟩
    · rw [hzl] at hp
      have hs := hspot hp hf0
      subst hs
      obtain ⟨z, hz1, hz2⟩ := hone 0 hp
      have hz0 : z[0]? = some (z[0]'(by omega)) := List.getElem?_eq_getElem _
      exact ⟨rfl, by have := World.block_lt_of_cell? _ _ (hz2 0 _ hz0); rwa [hadd] at this⟩
    · have hil : i < len := by rw [← hzl]; exact (List.getElem?_eq_some_iff.1 hxi).1
      have hs := hspot (by omega) hf0
      subst hs
      have := (hzp i x hxi).2 j y hxy
      rw [hadd, ← Nat.add_assoc] at this
      exact this
    · obtain ⟨i, hi2, rfl⟩ := List.mem_iff_getElem.1 hx
      exact (hzp i _ (List.getElem?_eq_getElem hi2)).1
theorem open_ros2 {t e : TypeId} {f0 f1 : Field} {W : World} {a : Option Addr} {len cap : Nat} {d : DataW H} {p : List MemPlace} (ht : P.underlying t = some (.slice e)) (he : P.underlying e = some (.struct #[f0, f1])) (hi : allInts P #[f0, f1] = true) (hC : P.cellsOf e = 2)
    (h : DataW.Trod enc P W 0 (fun _ => true) true t (.slice a len cap) d p) :
    ∃ xs : List (Int × Int), Ros2 W (.slice a len cap) xs ∧ (∀ x ∈ xs, (Lit.int .i64 x.1).wf = true ∧ (Lit.int .i64 x.2).wf = true) ∧ ((d = .nil ∧ xs = []) ∨ ∃ elems spare, d = .slice elems spare ∧ elems.length = xs.length) := by
  obtain ⟨xs, h1, h2, h3⟩ := open_rosK ht he hi hC (by simp) h
  have e : (xs.map fun l => (l.getD 0 0, l.getD 1 0)).map enc2 = xs := by
    rw [List.map_map]
    conv => rhs; rw [← List.map_id xs]
    apply List.map_congr_left
    intro x hx
    match x, (h2 x hx).1 with
    | [p, q], _ => rfl
  refine ⟨xs.map fun l => (l.getD 0 0, l.getD 1 0), ?_, fun x hx => ?_, ?_⟩
  · unfold Ros2
    rw [e]
    exact h1
  · obtain ⟨l, hl, rfl⟩ := List.mem_map.1 hx
    match l, h2 l hl with
    | [p, q], ⟨_, h5⟩ => exact ⟨h5 p (by simp), h5 q (by simp)⟩
  · rw [List.length_map]
    rcases h3 with ⟨h4, rfl⟩ | h4
    · exact .inl ⟨h4, rfl⟩
    · exact .inr h4
theorem open_ros3 {t e : TypeId} {f0 f1 f2 : Field} {W : World} {a : Option Addr} {len cap : Nat} {d : DataW H} {p : List MemPlace} (ht : P.underlying t = some (.slice e)) (he : P.underlying e = some (.struct #[f0, f1, f2])) (hi : allInts P #[f0, f1, f2] = true) (hC : P.cellsOf e = 3)
    (h : DataW.Trod enc P W 0 (fun _ => true) true t (.slice a len cap) d p) :
    ∃ xs : List (Int × Int × Int), Ros3 W (.slice a len cap) xs ∧ (∀ x ∈ xs, (Lit.int .i64 x.1).wf = true ∧ (Lit.int .i64 x.2.1).wf = true ∧ (Lit.int .i64 x.2.2).wf = true) ∧ ((d = .nil ∧ xs = []) ∨ ∃ elems spare, d = .slice elems spare ∧ elems.length = xs.length) := by
  obtain ⟨xs, h1, h2, h3⟩ := open_rosK ht he hi hC (by simp) h
  have e : (xs.map fun l => (l.getD 0 0, l.getD 1 0, l.getD 2 0)).map enc3 = xs := by
    rw [List.map_map]
    conv => rhs; rw [← List.map_id xs]
    apply List.map_congr_left
    intro x hx
    match x, (h2 x hx).1 with
    | [p, q, r], _ => rfl
  refine ⟨xs.map fun l => (l.getD 0 0, l.getD 1 0, l.getD 2 0), ?_, fun x hx => ?_, ?_⟩
  · unfold Ros3
    rw [e]
    exact h1
  · obtain ⟨l, hl, rfl⟩ := List.mem_map.1 hx
    match l, h2 l hl with
    | [p, q, r], ⟨_, h5⟩ => exact ⟨h5 p (by simp), h5 q (by simp), h5 r (by simp)⟩
  · rw [List.length_map]
    rcases h3 with ⟨h4, rfl⟩ | h4
    · exact .inl ⟨h4, rfl⟩
    · exact .inr h4
end

end Go.Proofs.Ytiioojnoggcnmaa

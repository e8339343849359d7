/-
  What is proved here: words for a sort that is known by what its comparing and exchanging do to a relation between worlds and arrays; no condition.
-/
import Derived.Test.YtiioojnoggcnmaaStabPlain
import Derived.Test.YtiioojnoggcnmaaBase
import Derived.Shelf.GgSortFunc.Whole
namespace Go.Proofs.Ytiioojnoggcnmaa
open Go.RowKit Go.Sort
set_option linter.unusedVariables false
set_option linter.unusedSectionVars false

/-- What lay from B on in w lies so in w'. -/
def Past (B : Nat) (w w' : World) : Prop := w.heap.size ≤ w'.heap.size ∧ ∀ k, B ≤ k → k < w.heap.size → w'.heap[k]? = w.heap[k]?
theorem Past.refl (B : Nat) (w : World) : Past B w w := ⟨Nat.le_refl _, fun _ _ _ => rfl⟩
theorem Past.trans {B : Nat} {w w' w'' : World} (h : Past B w w') (h' : Past B w' w'') : Past B w w'' := ⟨Nat.le_trans h.1 h'.1, fun k h1 h2 => (h'.2 k h1 (Nat.lt_of_lt_of_le h2 h.1)).trans (h.2 k h1 h2)⟩
theorem Past.alloc {B : Nat} {w w' : World} (h : Past B w w') (o : Obj) : Past B w (w'.alloc o) := h.trans ⟨by simp, fun k _ h2 => RowKit.Below.heap_alloc _ _ _ h2⟩
theorem Past.cell {B : Nat} {w w' : World} (h : Past B w w') {p : Addr} {v : Value} (hB : B ≤ p.block) (hc : w.cell? p = some v) : w'.cell? p = some v :=
  (World.cell?_of_block (h.2 p.block hB (World.block_lt_of_cell? _ _ hc))).trans hc
theorem Past.drewN (B : Nat) (w : World) (q : Nat) : Past B w (w.drewN q) := ⟨Nat.le_refl _, fun _ _ _ => rfl⟩

/-- A sort through two function values (a struct lessSwap). -/
structure FnRel (P : Program) {α : Type} [Inhabited α] (lt : α → α → Bool) (B n : Nat) (R : World → Array α → Prop) (gl : Nat) (lb : Array Value) (sf : Nat) (sb : Array Value) : Prop where
  near : ∀ {W W' : World} {d : Array α}, R W d → RowKit.Below B W W' → R W' d
  size : ∀ {W : World} {d : Array α}, R W d → B ≤ W.heap.size ∧ d.size = n
  eg : ∀ args w, (callFunc gl args).run P w = .ok (.enter gl args) w
  less : ∀ {W : World} {d : Array α} (i j : Nat) (zi zj : Int), R W d → i < n → j < n → zi = i → zj = j → Calls P gl (#[.int .i64 zi, .int .i64 zj] ++ lb) W fun e w' => e = .returned (.bool (lt d[i]! d[j]!)) ∧ R w' d ∧ Past B W w'
  swap : ∀ {W : World} {d : Array α} (i j : Nat) (zi zj : Int), R W d → i < n → j < n → zi = i → zj = j → ∃ W', (callFunc sf (#[.int .i64 zi, .int .i64 zj] ++ sb)).run P W = .ok (.value (.tuple #[])) W' ∧ R W' (swp d i j) ∧ Past B W W'

/-- A sort through an interface value. -/
structure IfRel (P : Program) {α : Type} [Inhabited α] (lt : α → α → Bool) (B n : Nat) (R : World → Array α → Prop) (Ty : TypeId) (rv : Value) (gl gs : Nat) : Prop where
  near : ∀ {W W' : World} {d : Array α}, R W d → RowKit.Below B W W' → R W' d
  size : ∀ {W : World} {d : Array α}, R W d → B ≤ W.heap.size ∧ d.size = n
  eL : ∀ args w, (callFunc gl args).run P w = .ok (.enter gl args) w
  eS : ∀ args w, (callFunc gs args).run P w = .ok (.enter gs args) w
  mL : ∀ w, Sem.run P (method (P.types.size + 100) Ty rv "Less") w = .ok (gl, rv) w
  mS : ∀ w, Sem.run P (method (P.types.size + 100) Ty rv "Swap") w = .ok (gs, rv) w
  less : ∀ {W : World} {d : Array α} (i j : Nat) (zi zj : Int), R W d → i < n → j < n → zi = i → zj = j → Calls P gl #[rv, .int .i64 zi, .int .i64 zj] W fun e w' => e = .returned (.bool (lt d[i]! d[j]!)) ∧ R w' d ∧ Past B W w'
  swap : ∀ {W : World} {d : Array α} (i j : Nat) (zi zj : Int), R W d → i < n → j < n → zi = i → zj = j → Calls P gs #[rv, .int .i64 zi, .int .i64 zj] W fun e w' => e = .returned (.tuple #[]) ∧ R w' (swp d i j) ∧ Past B W w'

/-- What such a call has done. -/
def Turned {α : Type} (B : Nat) (R : World → Array α → Prop) (Post : Array α → Prop) (W : World) (e : Ending) (w' : World) : Prop := e = .returned (.tuple #[]) ∧ ∃ d', Post d' ∧ R w' d' ∧ Past B W w'

end Go.Proofs.Ytiioojnoggcnmaa

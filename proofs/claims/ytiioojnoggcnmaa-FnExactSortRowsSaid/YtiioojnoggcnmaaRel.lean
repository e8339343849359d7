/-
  What is proved here: words for a sort that is known by what its comparing and exchanging do to a relation between worlds and arrays; no condition.
-/
import Derived.Test.YtiioojnoggcnmaaPast
import Derived.Shelf.GgSortFunc.Whole
namespace Go.Proofs.Ytiioojnoggcnmaa
open Go.RowKit Go.Sort
set_option linter.unusedVariables false
set_option linter.unusedSectionVars false

/-- A sort through two function values (a struct lessSwap). -/
structure FnRel (P : Program) {α : Type} [Inhabited α] (lt : α → α → Bool) (B n : Nat) (R : World → Array α → Prop) (gl : Nat) (lb : Array Value) (sf : Nat) (sb : Array Value) : Prop where
  near : ∀ {W W' : World} {d : Array α}, R W d → RowKit.Below B W W' → R W' d
  size : ∀ {W : World} {d : Array α}, R W d → B ≤ W.heap.size ∧ d.size = n
  eg : ∀ args w, (callFunc gl args).run P w = .ok (.enter gl args) w
  less : ∀ {W : World} {d : Array α} (i j : Nat) (zi zj : Int), R W d → i < n → j < n → zi = i → zj = j → Calls P gl (#[.int .i64 zi, .int .i64 zj] ++ lb) W fun e w' => e = .returned (.bool (lt d[i]! d[j]!)) ∧ R w' d ∧ Past B W w'
  swap : ∀ {W : World} {d : Array α} (i j : Nat) (zi zj : Int), R W d → i < n → j < n → zi = i → zj = j → ∃ W', (callFunc sf (#[.int .i64 zi, .int .i64 zj] ++ sb)).run P W = .ok (.value (.tuple #[])) W' ∧ R W' (swp d i j) ∧ Past B W W'

/-- What such a call has done. -/
def Turned {α : Type} (B : Nat) (R : World → Array α → Prop) (Post : Array α → Prop) (W : World) (e : Ending) (w' : World) : Prop := e = .returned (.tuple #[]) ∧ ∃ d', Post d' ∧ R w' d' ∧ Past B W w'

end Go.Proofs.Ytiioojnoggcnmaa

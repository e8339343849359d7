/-
  What is proved here: words for a sort through an interface value that is known by what its comparing and exchanging do to a relation between worlds and arrays, with a bound on the number of exchanges; no condition.
-/
import Derived.Test.YtiioojnoggcnmaaPast
namespace Go.Proofs.Ytiioojnoggcnmaa
open Go.RowKit Go.Sort
set_option linter.unusedVariables false
set_option linter.unusedSectionVars false

/-- A sort through an interface value: R c W d: the world W holds the array d, and at most c exchanges have been made. -/
structure IfRel (P : Program) {α : Type} [Inhabited α] (lt : α → α → Bool) (B n : Nat) (R : Nat → World → Array α → Prop) (Ty : TypeId) (rv : Value) (gl gs : Nat) (rl rs : Value) : Prop where
  near : ∀ {c : Nat} {W W' : World} {d : Array α}, R c W d → RowKit.Below B W W' → R c W' d
  more : ∀ {c c' : Nat} {W : World} {d : Array α}, R c W d → c ≤ c' → R c' W d
  size : ∀ {c : Nat} {W : World} {d : Array α}, R c W d → B ≤ W.heap.size ∧ d.size = n
  eL : ∀ args w, (callFunc gl args).run P w = .ok (.enter gl args) w
  eS : ∀ args w, (callFunc gs args).run P w = .ok (.enter gs args) w
  mL : ∀ {c : Nat} {W : World} {d : Array α}, R c W d → Sem.run P (method 233 Ty rv "Less") W = .ok (gl, rl) W
  mS : ∀ {c : Nat} {W : World} {d : Array α}, R c W d → Sem.run P (method 233 Ty rv "Swap") W = .ok (gs, rs) W
  less : ∀ {c : Nat} {W : World} {d : Array α} (i j : Nat) (zi zj : Int), R c W d → i < n → j < n → zi = i → zj = j → Calls P gl #[rl, .int .i64 zi, .int .i64 zj] W fun e w' => e = .returned (.bool (lt d[i]! d[j]!)) ∧ R c w' d ∧ Past B W w'
  swap : ∀ {c : Nat} {W : World} {d : Array α} (i j : Nat) (zi zj : Int), R c W d → i < n → j < n → zi = i → zj = j → Calls P gs #[rs, .int .i64 zi, .int .i64 zj] W fun e w' => e = .returned (.tuple #[]) ∧ R (c + 1) w' (swp d i j) ∧ Past B W w'

/-- What such a call has done, with at most c exchanges in all. -/
def TurnedI {α : Type} (B : Nat) (R : Nat → World → Array α → Prop) (c : Nat) (Post : Array α → Prop) (W : World) (e : Ending) (w' : World) : Prop := e = .returned (.tuple #[]) ∧ ∃ d', Post d' ∧ R c w' d' ∧ Past B W w'

end Go.Proofs.Ytiioojnoggcnmaa

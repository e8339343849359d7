/-
  What is proved here: what lies from a block on is kept, in words; no condition.
-/
import Derived.Test.YtiioojnoggcnmaaStabPlain
import Derived.Test.YtiioojnoggcnmaaBase
namespace Go.Proofs.Ytiioojnoggcnmaa
open Go.RowKit Go.Sort
set_option linter.unusedVariables false

/-- What lay from B on in w lies so in w'. -/
def Past (B : Nat) (w w' : World) : Prop := w.heap.size ≤ w'.heap.size ∧ ∀ k, B ≤ k → k < w.heap.size → w'.heap[k]? = w.heap[k]?
theorem Past.refl (B : Nat) (w : World) : Past B w w := ⟨Nat.le_refl _, fun _ _ _ => rfl⟩
theorem Past.trans {B : Nat} {w w' w'' : World} (h : Past B w w') (h' : Past B w' w'') : Past B w w'' := ⟨Nat.le_trans h.1 h'.1, fun k h1 h2 => (h'.2 k h1 (Nat.lt_of_lt_of_le h2 h.1)).trans (h.2 k h1 h2)⟩
theorem Past.alloc {B : Nat} {w w' : World} (h : Past B w w') (o : Obj) : Past B w (w'.alloc o) := h.trans ⟨by simp, fun k _ h2 => RowKit.Below.heap_alloc _ _ _ h2⟩
theorem Past.cell {B : Nat} {w w' : World} (h : Past B w w') {p : Addr} {v : Value} (hB : B ≤ p.block) (hc : w.cell? p = some v) : w'.cell? p = some v :=
  (World.cell?_of_block (h.2 p.block hB (World.block_lt_of_cell? _ _ hc))).trans hc
theorem Past.drewN (B : Nat) (w : World) (q : Nat) : Past B w (w.drewN q) := ⟨Nat.le_refl _, fun _ _ _ => rfl⟩

end Go.Proofs.Ytiioojnoggcnmaa

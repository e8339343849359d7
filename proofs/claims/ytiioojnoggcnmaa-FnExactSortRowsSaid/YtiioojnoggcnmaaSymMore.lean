/-
  What is proved here: one more form of the step of merging blocks; no condition.
-/
import Derived.Test.YtiioojnoggcnmaaSymPlain
namespace Go.Proofs.Ytiioojnoggcnmaa
open Go.Sort
set_option linter.unusedVariables false
set_option linter.unusedSectionVars false

section
variable {α : Type} [Inhabited α] {lt : α → α → Bool} {T : α → α → Prop}
theorem bl_step' {n bs a b : Nat} {E0 : Nat → Nat → Prop} {d d' : Array α} (hbl : Bl lt T n bs a E0 d) (hd : bs ∣ a) (hab : a ≤ b) (hbn : b ≤ n) (hbs : b ≤ a + bs) (hend : b = a + bs ∨ b = n) (hn : n ≤ d.size) (hE : ∀ i j, a ≤ i → i < b → b ≤ j → j < n → ¬ E0 i j) (hp : PermIn a b d d') (hs : SortT T a b d') :
    Bl lt T n bs b E0 d' := by
  have h1 : Bl lt T n bs a (fun i j => E0 i j ∧ j < n) d := fun i j hij hj => by
    obtain ⟨h1, h2⟩ := hbl i j hij hj
    exact ⟨fun h => h1 (h.imp id fun h => ⟨h.1.1, h.2⟩), fun h => h2 fun h3 => h (h3.imp id fun h4 => ⟨⟨h4.1, hj⟩, h4.2⟩)⟩
  have h2 := bl_step h1 hd hab hbn hbs hend hn (fun i j e1 e2 e3 e4 => hE i j e1 e2 e3 e4.2 e4.1) hp hs
  intro i j hij hj
  obtain ⟨h3, h4⟩ := h2 i j hij hj
  exact ⟨fun h => h3 (h.imp id fun h => ⟨⟨h.1, hj⟩, h.2⟩), fun h => h4 fun h5 => h (h5.imp id fun h6 => ⟨h6.1.1, h6.2⟩)⟩
theorem bl_ins (htr : ∀ x y z, T x y → T y z → T x z) {n a b : Nat} {d : Array α} (h : Bl lt T n 20 a (fun _ _ => False) d) (hd : 20 ∣ a) (hab : a ≤ b) (hbn : b ≤ n) (hbs : b ≤ a + 20) (hend : b = a + 20 ∨ b = n) (hn : n ≤ d.size) :
    Bl lt T n 20 b (fun _ _ => False) (insertionSort lt d a b) ∧ PermIn a b d (insertionSort lt d a b) := by
  have h1 := insertion_T (lt := lt) htr a b d hab (by omega) (fun i j e1 e2 e3 => (h i j e2 (by omega)).2 (fun h3 => h3.elim (fun h4 => by omega) (fun h4 => h4.1)))
  exact ⟨bl_step' h hd hab hbn hbs hend hn (fun _ _ _ _ _ _ h => h) h1.1 h1.2, h1.1⟩
theorem bl_start {n : Nat} {d : Array α} (h : ∀ i j, i < j → j < n → Dec lt T d[i]! d[j]!) : Bl lt T n 20 0 (fun _ _ => False) d := fun i j hij hj => ⟨fun h3 => h3.elim (fun h4 => by omega) (fun h4 => h4.1.elim), fun _ => h i j hij hj⟩
end

end Go.Proofs.Ytiioojnoggcnmaa

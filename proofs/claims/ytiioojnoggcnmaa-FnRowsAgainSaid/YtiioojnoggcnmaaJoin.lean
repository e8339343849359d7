/-
  What is proved here: the contract of the laws' helper joined (two lists, one behind the other); condition: at most 2^44 elements in all.
-/
import Derived.Test.YtiioojnoggcnmaaUnite
import Derived.Test.YtiioojnoggcnmaaWf
namespace Go.Proofs.Ytiioojnoggcnmaa
open Go.RowKit
set_option linter.unusedVariables false

set_option maxHeartbeats 1000000 in
theorem joined_any (va vb : Value) (xs ys : List Int) (w : World) (ha : Ro w va xs) (hb : Ro w vb ys) (hn : xs.length + ys.length ≤ 17592186044416) :
    Calls Try.prog 33 #[va, vb] w (Made 3 (xs ++ ys) w) := by
  have HRA := Lib.hid ha
  have HRB := Lib.hid hb
  obtain ⟨A, c, b, off, rfl, hnc, hcm, ha, hcell⟩ := ha
  obtain ⟨A1, c1, b1, off1, rfl, hnc1, hcm1, ha1, hcell1⟩ := hb
  obtain ⟨n, hxn⟩ : ∃ n, n = xs.length := ⟨_, rfl⟩
  obtain ⟨m, hym⟩ : ∃ m, m = ys.length := ⟨_, rfl⟩
  rw [← hxn] at HRA ⊢
  rw [← hym] at HRB ⊢
  rw [← hxn, ← hym] at hn
  have HX := Lib.hid hxn
  have HY := Lib.hid hym
  clear hcell ha hxn hcell1 ha1 hym hnc hnc1
  unfold maxLen at hcm hcm1
  go_enter Try.func33, Try.ntmps33
  go_wp2_with (at_builtin; first
    | (refine wpList_app _ rfl (.tmp 5) (.tmp 6) rfl ints_ok w.heap.size w.heap.size 0 0 [] (by rfl) (ownE _ (Nat.le_refl _)) _ n c (xs.map (Value.int .i64)) (by rfl) ((Ro.src HRA.out).2.alloc _) (by unfold maxLen; omega) (by omega) (by simp) n (by omega) _ rfl ?_; intro g2 cap2 w2 hown2 hgrow2 hat2)
    | (refine wpList_app _ rfl (.tmp 7) (.tmp 8) rfl ints_ok w.heap.size g2 n cap2 _ (by rfl) hown2 _ m c1 (ys.map (Value.int .i64)) (by rfl) ((Ro.src HRB.out).2.below (below_app hgrow2 (Nat.le_refl _) ((Below.refl _ _).alloc (Nat.le_refl _) _))) (by unfold maxLen; omega) (by omega) (by have := hgrow2.size; simp at this; omega) (n + m) rfl _ rfl ?_; intro g3 cap3 w3 hown3 hgrow3 hat3))
  obtain ⟨hg2B, hg2l⟩ := hown2.lt g2 rfl
  have hb2 : Below w.heap.size w w2 := below_app hgrow2 (Nat.le_refl _) ((Below.refl _ _).alloc (Nat.le_refl _) _)
  have hb3 : Below w.heap.size w w3 := below_app hgrow3 (by omega) hb2
  rw [List.nil_append, ← List.map_append] at hown3
  have hoj := own_ro hown3 (by rw [List.length_append, ← HX.out, ← HY.out])
  have HOJ := Lib.hid hoj
  clear hown2 hown3 hgrow2 hgrow3 hat2 hat3 hoj
  go_ret
  exact ⟨_, rfl, HOJ.out, hb3⟩

end Go.Proofs.Ytiioojnoggcnmaa

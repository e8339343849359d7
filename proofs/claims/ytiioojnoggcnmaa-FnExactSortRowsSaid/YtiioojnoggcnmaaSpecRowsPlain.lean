/-
  What is proved here: a row that is put behind all those ahead that do not come behind it keeps a stable sort stable; and how the keys part two rows, from the last one on; no condition.
-/
import Derived.Test.YtiioojnoggcnmaaRowsPlain
namespace Go.Proofs.Ytiioojnoggcnmaa
open Go.Sort
set_option linter.unusedVariables false

theorem stab_nil {α : Type} [Inhabited α] {lt : α → α → Bool} : Stab lt ([] : List α) [] := ⟨[], List.Perm.refl _, List.Pairwise.nil, rfl⟩
theorem stab_put {α : Type} [Inhabited α] {lt : α → α → Bool} (hO : SWO lt) {l out : List α} (h : Stab lt l out) (r : α) (i : Nat) (hi : i ≤ out.length)
    (h1 : ∀ t x, i ≤ t → out[t]? = some x → lt r x = true) (h2 : ∀ x, 0 < i → out[i - 1]? = some x → lt r x = false) : Stab lt (l ++ [r]) (out.take i ++ r :: out.drop i) := by
  obtain ⟨t, hp, hs, rfl⟩ := h
  have htag : ∀ y ∈ t, y.2 < l.length := fun y hy => by
    have := hp.mem_iff.1 hy
    obtain ⟨a, b⟩ := y
    rw [List.mem_zipIdx_iff_getElem?] at this
    exact (List.getElem?_eq_some_iff.1 this).1
  refine ⟨t.take i ++ (r, l.length) :: t.drop i, ?_, ?_, by simp⟩
  · rw [List.zipIdx_append]
    refine List.perm_middle.trans ?_
    rw [List.take_append_drop]
    refine (List.Perm.cons _ hp).trans ?_
    simpa using (List.perm_append_comm (l₁ := [(r, l.length)]) (l₂ := l.zipIdx))
  · have hsp : (t.take i ++ t.drop i).Pairwise (Tt lt) := by rw [List.take_append_drop]; exact hs
    obtain ⟨ha, hb, hab⟩ := List.pairwise_append.1 hsp
    refine List.pairwise_append.2 ⟨ha, List.pairwise_cons.2 ⟨fun y hy => ?_, hb⟩, fun x hx y hy => ?_⟩
    · obtain ⟨k, hk, e⟩ := List.getElem_of_mem hy
      refine .inl ?_
      have : (t.map Prod.fst)[i + k]? = some y.1 := by
        rw [List.getElem?_map, ← List.getElem?_drop, List.getElem?_eq_getElem hk, e]; rfl
      exact h1 (i + k) y.1 (by omega) this
    · rcases List.mem_cons.1 hy with rfl | hy
      · refine .inr ⟨?_, htag x (List.mem_of_mem_take hx)⟩
        obtain ⟨k, hk, e⟩ := List.getElem_of_mem hx
        have hki : k < i := by simp at hk; omega
        have hkl : k < t.length := by simp at hk; omega
        have hil : i - 1 < t.length := by simp at hi; omega
        have hr : lt r (t[i - 1]).1 = false := h2 _ (by omega) (by rw [List.getElem?_map, List.getElem?_eq_getElem hil]; rfl)
        have ex : t[k] = x := by rw [← e]; simp
        rcases Nat.lt_or_ge k (i - 1) with h5 | h5
        · have hT := List.pairwise_iff_getElem.1 hs k (i - 1) hkl hil h5
          rw [ex] at hT
          show lt r x.1 = false
          cases hc : lt r x.1 with
          | false => rfl
          | true =>
            rcases hT with h6 | ⟨h6, _⟩
            · rw [hO.trans _ _ _ hc h6] at hr; cases hr
            · have h7 := hO.ntrans r (t[i - 1]).1 x.1 hr h6
              rw [hc] at h7; cases h7
        · have : k = i - 1 := by omega
          subst this
          rw [ex] at hr; exact hr
      · exact hab x hx y hy

theorem keyOf_lt (ks : List Int) (z : Int) (a b : Int × Int × Int) : ltKeys (ks ++ [z]) a b = if keyOf (z % 3).toNat a = keyOf (z % 3).toNat b then ltKeys ks a b else decide (keyOf (z % 3).toNat a < keyOf (z % 3).toNat b) := by
  rw [ltKeys_snoc]
  unfold lexLt ltKey
  by_cases h : keyOf (z % 3).toNat a = keyOf (z % 3).toNat b
  · rw [if_pos h, h]; simp
  · rw [if_neg h]
    rcases Int.lt_or_gt_of_ne h with h1 | h1
    · have : ¬ keyOf (z % 3).toNat b < keyOf (z % 3).toNat a := by omega
      simp [h1]
    · have : ¬ keyOf (z % 3).toNat a < keyOf (z % 3).toNat b := by omega
      simp [h1, this]
theorem ltKeys_take {ks : List Int} {j : Nat} {z : Int} (h : ks[j]? = some z) (a b : Int × Int × Int) : ltKeys (ks.take (j + 1)) a b = if keyOf (z % 3).toNat a = keyOf (z % 3).toNat b then ltKeys (ks.take j) a b else decide (keyOf (z % 3).toNat a < keyOf (z % 3).toNat b) := by
  rw [List.take_add_one, h]
  exact keyOf_lt _ _ _ _

end Go.Proofs.Ytiioojnoggcnmaa

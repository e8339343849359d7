/-
  What is proved here: plain laws on exchanges: each turns the evenness of the number of wrong pairs of different numbers; and there are at least as many as places less the classes that they join; no condition.
-/
import Derived.Test.YtiioojnoggcnmaaInvMore
import Derived.Test.YtiioojnoggcnmaaSetPlain
import Derived.Test.YtiioojnoggcnmaaStabPlain
namespace Go.Proofs.Ytiioojnoggcnmaa
open Go.Sort
set_option linter.unusedVariables false

/-- d comes from d0 by k exchanges of different places below n. -/
def Tr (n : Nat) (d0 : Array Int) : Nat → Array Int → Prop
  | 0, d => d = d0
  | k + 1, d => ∃ d' i j, Tr n d0 k d' ∧ i < n ∧ j < n ∧ i ≠ j ∧ d = swp d' i j

theorem set_two {α : Type} (A M C : List α) (x y : α) : ((A ++ x :: (M ++ y :: C)).set A.length y).set (A.length + M.length + 1) x = A ++ y :: (M ++ x :: C) := by
  rw [List.set_append_right _ _ (Nat.le_refl _), Nat.sub_self, List.set_cons_zero, List.set_append_right _ _ (by omega), show A.length + M.length + 1 - A.length = M.length + 1 by omega, List.set_cons_succ, List.set_append_right _ _ (Nat.le_refl _), Nat.sub_self, List.set_cons_zero]
theorem cut_two {l : List Int} {i j : Nat} {x y : Int} (hij : i < j) (hx : l[i]? = some x) (hy : l[j]? = some y) : ∃ A M C, l = A ++ x :: (M ++ y :: C) ∧ A.length = i ∧ A.length + M.length + 1 = j := by
  have hil : i < l.length := (List.getElem?_eq_some_iff.1 hx).1
  have hjl : j < l.length := (List.getElem?_eq_some_iff.1 hy).1
  have hxe : l[i] = x := (List.getElem?_eq_some_iff.1 hx).2
  have hye : l[j] = y := (List.getElem?_eq_some_iff.1 hy).2
  refine ⟨l.take i, (l.drop (i + 1)).take (j - i - 1), l.drop (j + 1), ?_, by simp; omega, by simp; omega⟩
  have h1 : l = l.take i ++ x :: l.drop (i + 1) := by
    rw [← hxe, ← List.drop_eq_getElem_cons hil, List.take_append_drop]
  have h2 : l.drop (i + 1) = (l.drop (i + 1)).take (j - i - 1) ++ y :: l.drop (j + 1) := by
    have h3 : (l.drop (i + 1)).drop (j - i - 1) = y :: l.drop (j + 1) := by
      rw [List.drop_drop, show i + 1 + (j - i - 1) = j by omega, ← hye, ← List.drop_eq_getElem_cons hjl]
    rw [← h3, List.take_append_drop]
  rw [← h2]
  exact h1

theorem inv_adj {p q : Int} (h : p ≠ q) (a b : List Int) : (inv (a ++ q :: p :: b) + inv (a ++ p :: q :: b)) % 2 = 1 := by
  have e := inv_swap a b p q
  simp only [List.append_assoc, List.cons_append, List.nil_append] at e
  rcases Int.lt_or_gt_of_ne h with h1 | h1
  · rw [if_pos h1, if_neg (by omega)] at e; omega
  · rw [if_neg (by omega), if_pos h1] at e; omega
theorem inv_far (C : List Int) {p q : Int} (h : p ≠ q) : ∀ (M A : List Int), (∀ m ∈ M, m ≠ p ∧ m ≠ q) → (inv (A ++ q :: (M ++ p :: C)) + inv (A ++ p :: (M ++ q :: C))) % 2 = 1
  | [], A, _ => by simpa using inv_adj h A C
  | m :: M, A, hm => by
    have h0 := hm m (by simp)
    have h1 := inv_adj (p := p) (q := m) (fun e => h0.1 e.symm) A (M ++ q :: C)
    have h2 := inv_far C h M (A ++ [m]) (fun x hx => hm x (List.mem_cons_of_mem _ hx))
    have h3 := inv_adj (p := m) (q := q) h0.2 A (M ++ p :: C)
    simp only [List.append_assoc, List.cons_append, List.nil_append] at h1 h2 h3 ⊢
    omega

theorem swp_list (d : Array Int) (i j : Nat) (hi : i < d.size) (hj : j < d.size) : (swp d i j).toList = (d.toList.set i d[j]!).set j d[i]! := by
  unfold swp
  simp
theorem get_list (d : Array Int) (i : Nat) (hi : i < d.size) : d.toList[i]? = some d[i]! := by
  rw [Array.getElem?_toList, Array.getElem?_eq_getElem hi, getElem!_pos d i hi]

theorem swp_parity_lt {d : Array Int} {i j : Nat} (hij : i < j) (hj : j < d.size) (hn : d.toList.Nodup) : (inv (swp d i j).toList + inv d.toList) % 2 = 1 ∧ (swp d i j).toList.Perm d.toList := by
  obtain ⟨A, M, C, hl, hA, hM⟩ := cut_two hij (get_list d i (by omega)) (get_list d j hj)
  rw [swp_list d i j (by omega) hj]
  generalize d[i]! = x at *
  generalize d[j]! = y at *
  rw [hl] at hn ⊢
  rw [← hM, ← hA, set_two]
  have hn2 := hn
  rw [List.nodup_append] at hn2
  obtain ⟨_, hn3, _⟩ := hn2
  rw [List.nodup_cons] at hn3
  obtain ⟨hx, hn4⟩ := hn3
  rw [List.nodup_append] at hn4
  obtain ⟨_, hn5, hn6⟩ := hn4
  have hxy : x ≠ y := fun e => hx (by rw [e]; simp)
  refine ⟨inv_far C hxy M A (fun m hm => ⟨fun e => hx (by rw [← e]; simp [hm]), fun e => hn6 m hm y (by simp) e⟩), ?_⟩
  have e1 : (y :: (M ++ x :: C)).Perm (x :: (M ++ y :: C)) :=
    (List.Perm.cons y List.perm_middle).trans ((List.Perm.swap x y _).trans (List.Perm.cons x List.perm_middle.symm))
  exact List.Perm.append_left A e1
theorem swp_comm (d : Array Int) (i j : Nat) (hi : i < d.size) (hj : j < d.size) (h : i ≠ j) : swp d i j = swp d j i := by
  apply Array.toList_inj.1
  rw [swp_list d i j hi hj, swp_list d j i hj hi]
  exact List.set_comm _ _ h
theorem swp_parity {d : Array Int} {i j : Nat} (hi : i < d.size) (hj : j < d.size) (hij : i ≠ j) (hn : d.toList.Nodup) : (inv (swp d i j).toList + inv d.toList) % 2 = 1 ∧ (swp d i j).toList.Perm d.toList := by
  rcases Nat.lt_or_gt_of_ne hij with h | h
  · exact swp_parity_lt h hj hn
  · rw [swp_comm d i j hi hj hij]; exact swp_parity_lt h hi hn

theorem Tr.parity {n : Nat} {d0 : Array Int} (hs : d0.size = n) (hn : d0.toList.Nodup) : ∀ {k : Nat} {d : Array Int}, Tr n d0 k d → d.size = n ∧ d.toList.Perm d0.toList ∧ (inv d0.toList + inv d.toList + k) % 2 = 0
  | 0, d, h => by
    have e : d = d0 := h
    subst e
    exact ⟨hs, List.Perm.refl _, by omega⟩
  | k + 1, d, h => by
    obtain ⟨d', i, j, h1, hi, hj, hij, rfl⟩ := h
    obtain ⟨h2, h3, h4⟩ := Tr.parity hs hn h1
    obtain ⟨h5, h6⟩ := swp_parity (d := d') (by omega) (by omega) hij (h3.symm.nodup hn)
    exact ⟨by rw [size_swp]; exact h2, h6.trans h3, by omega⟩

theorem eqs_nodup {l : List Int} (h : eqs l = 0) : l.Nodup := by
  induction l with
  | nil => exact List.nodup_nil
  | cons x r ih =>
    simp only [eqs] at h
    refine List.nodup_cons.2 ⟨fun hx => ?_, ih (by omega)⟩
    have : 0 < r.countP (fun y => decide (y = x)) := List.countP_pos_iff.2 ⟨x, hx, by simp⟩
    omega
theorem nodup_eqs {l : List Int} (h : l.Nodup) : eqs l = 0 := by
  induction l with
  | nil => rfl
  | cons x r ih =>
    obtain ⟨h1, h2⟩ := List.nodup_cons.1 h
    simp only [eqs]
    rw [ih h2, Nat.add_zero, List.countP_eq_zero]
    intro y hy e
    simp at e
    exact h1 (e ▸ hy)

/-- Sorted upwards: the number of exchanges is as even as that of wrong pairs. -/
theorem parity_up {x : List Int} {k : Nat} {d : Array Int} (hx : eqs x = 0) (h : Tr x.length x.toArray k d) (hd : d.toList = asc x) : (inv x + k) % 2 = 0 := by
  obtain ⟨_, _, h3⟩ := h.parity (by simp) (by simpa using eqs_nodup hx)
  rw [hd, inv_zero.2 (asc_asc x)] at h3
  simpa using h3
/-- Sorted downwards: .. as that of right pairs. -/
theorem parity_down {x : List Int} {k : Nat} {d : Array Int} (hx : eqs x = 0) (h : Tr x.length x.toArray k d) (hd : d.toList = (asc x).reverse) : (2 * inv x + x.length * (x.length - 1) + 2 * k) % 4 = 0 := by
  obtain ⟨_, _, h3⟩ := h.parity (by simp) (by simpa using eqs_nodup hx)
  have h4 := inv_mirror (asc x)
  rw [inv_zero.2 (asc_asc x), nodup_eqs ((asc_perm x).symm.nodup (eqs_nodup hx)), asc_len] at h4
  rw [hd] at h3
  simp only [] at h3
  omega

theorem range_len : ∀ (n : Nat) (S : List Nat), (∀ x, x < n → x ∈ S) → n ≤ S.length
  | 0, S, _ => Nat.zero_le _
  | n + 1, S, h => by
    have h1 : n ∈ S := h n (by omega)
    have h2 := range_len n (S.erase n) (fun x hx => (List.mem_erase_of_ne (by omega)).2 (h x (by omega)))
    rw [List.length_erase_of_mem h1] at h2
    have := List.length_pos_of_mem h1
    omega

theorem swp_get {d : Array Int} {i j p : Nat} (hi : i < d.size) (hj : j < d.size) (hp : p < d.size) : (swp d i j)[p]! = if p = j then d[i]! else if p = i then d[j]! else d[p]! := by
  have h1 := get_list (swp d i j) p (by rw [size_swp]; exact hp)
  rw [swp_list d i j hi hj, List.getElem?_set, List.getElem?_set, get_list d p hp] at h1
  simp only [List.length_set, Array.length_toList] at h1
  by_cases h2 : p = j
  · subst h2
    rw [if_pos rfl, if_pos hp] at h1
    rw [if_pos rfl]; exact (Option.some.inj h1).symm
  · rw [if_neg (Ne.symm h2)] at h1
    rw [if_neg h2]
    by_cases h3 : p = i
    · subst h3
      rw [if_pos rfl, if_pos hp] at h1
      rw [if_pos rfl]; exact (Option.some.inj h1).symm
    · rw [if_neg (Ne.symm h3)] at h1
      rw [if_neg h3]; exact (Option.some.inj h1).symm
theorem nodup_inj {l : List Int} (h : l.Nodup) {i j : Nat} {v : Int} (hi : l[i]? = some v) (hj : l[j]? = some v) : i = j := by
  obtain ⟨h1, h2⟩ := List.getElem?_eq_some_iff.1 hi
  obtain ⟨h3, h4⟩ := List.getElem?_eq_some_iff.1 hj
  have hp := List.pairwise_iff_getElem.1 h
  rcases Nat.lt_trichotomy i j with e | e | e
  · exact absurd (h2.trans h4.symm) (hp i j h1 h3 e)
  · exact e
  · exact absurd (h4.trans h2.symm) (hp j i h3 h1 e)

/-- k exchanges join at least n - k classes of places, and each number stays within its class. -/
theorem Tr.classes {n : Nat} {d0 : Array Int} (hs : d0.size = n) : ∀ {k : Nat} {d : Array Int}, Tr n d0 k d → d.size = n ∧ ∃ f : Nat → Nat, (∀ S : List Nat, (∀ x, x < n → ∃ s ∈ S, f x = f s) → n ≤ S.length + k) ∧ (∀ p, p < n → ∃ p', p' < n ∧ d[p']! = d0[p]! ∧ f p = f p')
  | 0, d, h => by
    have e : d = d0 := h
    subst e
    refine ⟨hs, id, fun S h1 => range_len n S (fun x hx => ?_), fun p hp => ⟨p, hp, rfl, rfl⟩⟩
    obtain ⟨s, h2, h3⟩ := h1 x hx
    have h4 : x = s := h3
    exact h4 ▸ h2
  | k + 1, d, h => by
    obtain ⟨d', i, j, h1, hi, hj, hij, rfl⟩ := h
    obtain ⟨h2, f, h3, h4⟩ := Tr.classes hs h1
    refine ⟨by rw [size_swp]; exact h2, fun x => if f x = f j then f i else f x, fun S hS => ?_, fun p hp => ?_⟩
    · by_cases ha : ∃ s ∈ S, f s = f i
      · have h5 := h3 (j :: S) (fun x hx => ?_)
        · simp only [List.length_cons] at h5; omega
        · obtain ⟨s, hs1, hs2⟩ := hS x hx
          simp only [] at hs2
          by_cases hxj : f x = f j
          · exact ⟨j, by simp, hxj⟩
          · rw [if_neg hxj] at hs2
            by_cases hsj : f s = f j
            · rw [if_pos hsj] at hs2
              obtain ⟨s2, h6, h7⟩ := ha
              exact ⟨s2, by simp [h6], by rw [hs2, h7]⟩
            · rw [if_neg hsj] at hs2
              exact ⟨s, by simp [hs1], hs2⟩
      · have h5 := h3 (i :: S) (fun x hx => ?_)
        · simp only [List.length_cons] at h5; omega
        · obtain ⟨s, hs1, hs2⟩ := hS x hx
          simp only [] at hs2
          by_cases hxi : f x = f i
          · exact ⟨i, by simp, hxi⟩
          · have hsi : ¬ f s = f i := fun e => ha ⟨s, hs1, e⟩
            by_cases hxj : f x = f j
            · by_cases hsj : f s = f j
              · exact ⟨s, by simp [hs1], by rw [hxj, hsj]⟩
              · rw [if_pos hxj, if_neg hsj] at hs2
                exact absurd hs2.symm hsi
            · rw [if_neg hxj] at hs2
              by_cases hsj : f s = f j
              · rw [if_pos hsj] at hs2
                exact absurd hs2 hxi
              · rw [if_neg hsj] at hs2
                exact ⟨s, by simp [hs1], hs2⟩
    · obtain ⟨p', h5, h6, h7⟩ := h4 p hp
      simp only []
      by_cases e1 : p' = i
      · refine ⟨j, hj, by rw [swp_get (by omega) (by omega) (by omega), if_pos rfl, ← e1]; exact h6, ?_⟩
        rw [h7, e1, if_pos rfl]
        by_cases e : f i = f j
        · rw [if_pos e]
        · rw [if_neg e]
      · by_cases e2 : p' = j
        · refine ⟨i, hi, by rw [swp_get (by omega) (by omega) (by omega), if_neg hij, if_pos rfl, ← e2]; exact h6, ?_⟩
          rw [h7, e2, if_pos rfl]
          by_cases e : f i = f j
          · rw [if_pos e]
          · rw [if_neg e]
        · exact ⟨p', h5, by rw [swp_get (by omega) (by omega) (by omega), if_neg e2, if_neg e1]; exact h6, by rw [h7]⟩

theorem uni_nodup {x : List Int} (h : x.Nodup) : uni x = asc x :=
  (uni_eq (sasc_of (asc_asc x) ((asc_perm x).symm.nodup h)) (fun v => (asc_perm x).mem_iff)).symm

/-- Different numbers that k exchanges sort: places from which every place is reached by going to ranks are at least as many as places less exchanges. -/
theorem least_up {x : List Int} {k : Nat} {d : Array Int} (hx : eqs x = 0) (h : Tr x.length x.toArray k d) (hd : d.toList = asc x) (S : List Nat)
    (hS : ∀ f : Nat → Nat, (∀ p v, x[p]? = some v → f p = f (rank x v)) → ∀ p, p < x.length → ∃ s ∈ S, f p = f s) : x.length ≤ S.length + k := by
  obtain ⟨h1, f, h2, h3⟩ := h.classes (by simp)
  refine h2 S (hS f (fun p v hv => ?_))
  have hp : p < x.length := (List.getElem?_eq_some_iff.1 hv).1
  obtain ⟨p', h4, h5, h6⟩ := h3 p hp
  have h7 : x.toArray[p]! = v := by
    have := get_list x.toArray p (by simpa using hp)
    rw [show x.toArray.toList = x from rfl, hv] at this
    exact (Option.some.inj this).symm
  have h8 : (asc x)[p']? = some v := by rw [← hd, get_list d p' (by omega), h5, h7]
  have h9 := rank_at (x := x) (v := v) (List.mem_of_getElem? hv)
  rw [uni_nodup (eqs_nodup hx)] at h9
  have hnd : (asc x).Nodup := (asc_perm x).symm.nodup (eqs_nodup hx)
  have e : p' = rank x v := nodup_inj hnd h8 h9
  rw [h6, e]

end Go.Proofs.Ytiioojnoggcnmaa

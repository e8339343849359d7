/-
  What is proved here: plain facts on merging two ordered ranges in place (the parts of sort.symMerge), and on blocks that are merged two by two; no condition.
-/
import Derived.Test.YtiioojnoggcnmaaStabPlain
namespace Go.Proofs.Ytiioojnoggcnmaa
open Go.Sort
set_option linter.unusedVariables false
set_option linter.unusedSectionVars false

section
variable {α : Type} [Inhabited α] {lt : α → α → Bool} {T : α → α → Prop}

/-- The element at a has gone up to k. -/
def Up (a k : Nat) (d d' : Array α) : Prop := d'.size = d.size ∧ ∀ t, d'[t]! = if a ≤ t ∧ t < k then d[t + 1]! else if t = k then d[a]! else d[t]!
theorem up_start (a : Nat) (d : Array α) : Up a a d d := ⟨rfl, fun t => by rw [if_neg (by omega)]; by_cases h : t = a <;> simp [h]⟩
theorem up_step {a k : Nat} {d d' : Array α} (h : Up a k d d') (hak : a ≤ k) (hk : k + 1 < d.size) : Up a (k + 1) d (swp d' k (k + 1)) := by
  obtain ⟨h1, h2⟩ := h
  refine ⟨by rw [size_swp, h1], fun t => ?_⟩
  rw [swp_get d' (by omega) (by omega), h2, h2, h2]
  by_cases e1 : t = k + 1
  · subst e1
    rw [if_pos rfl, if_neg (by omega), if_pos rfl, if_neg (by omega), if_pos rfl]
  · rw [if_neg e1]
    by_cases e2 : t = k
    · subst e2
      rw [if_pos rfl, if_neg (by omega), if_neg (by omega), if_pos (by omega)]
    · rw [if_neg e2]
      by_cases e3 : a ≤ t ∧ t < k
      · rw [if_pos e3, if_pos (by omega)]
      · rw [if_neg e3, if_neg e2, if_neg (by omega), if_neg e1]
/-- The element at m has gone down to k. -/
def Down (m k : Nat) (d d' : Array α) : Prop := d'.size = d.size ∧ ∀ t, d'[t]! = if k < t ∧ t ≤ m then d[t - 1]! else if t = k then d[m]! else d[t]!
theorem down_start (m : Nat) (d : Array α) : Down m m d d := ⟨rfl, fun t => by rw [if_neg (by omega)]; by_cases h : t = m <;> simp [h]⟩
theorem down_step {m k : Nat} {d d' : Array α} (h : Down m (k + 1) d d') (hkm : k < m) (hm : m < d.size) : Down m k d (swp d' (k + 1) k) := by
  obtain ⟨h1, h2⟩ := h
  refine ⟨by rw [size_swp, h1], fun t => ?_⟩
  rw [swp_get d' (by omega) (by omega), h2, h2, h2]
  by_cases e1 : t = k
  · subst e1
    rw [if_pos rfl, if_neg (by omega), if_pos rfl, if_neg (by omega), if_pos rfl]
  · rw [if_neg e1]
    by_cases e2 : t = k + 1
    · subst e2
      rw [if_pos rfl, if_neg (by omega), if_neg (by omega), if_pos (by omega)]
      congr 1
    · rw [if_neg e2]
      by_cases e3 : k + 1 < t ∧ t ≤ m
      · rw [if_pos e3, if_pos (by omega)]
      · rw [if_neg e3, if_neg e2, if_neg (by omega), if_neg e1]

theorem down_step' {m k : Nat} {d d' : Array α} (h : Down m k d d') (hk : 0 < k) (hkm : k ≤ m) (hm : m < d.size) : Down m (k - 1) d (swp d' k (k - 1)) := by
  obtain ⟨k, rfl⟩ : ∃ k', k = k' + 1 := ⟨k - 1, by omega⟩
  exact down_step h (by omega) hm

theorem up_sorted {a i b : Nat} {d d' : Array α} (hai : a + 1 ≤ i) (hib : i ≤ b) (h : Up a (i - 1) d d') (hs : SortT T (a + 1) b d) (h1 : ∀ t, a + 1 ≤ t → t < i → T d[t]! d[a]!) (h2 : ∀ t, i ≤ t → t < b → T d[a]! d[t]!) : SortT T a b d' := by
  intro p q hp hpq hq
  rw [h.2, h.2]
  by_cases e1 : a ≤ p ∧ p < i - 1
  · rw [if_pos e1]
    by_cases e2 : a ≤ q ∧ q < i - 1
    · rw [if_pos e2]; exact hs (p + 1) (q + 1) (by omega) (by omega) (by omega)
    · rw [if_neg e2]
      by_cases e3 : q = i - 1
      · rw [if_pos e3]; exact h1 (p + 1) (by omega) (by omega)
      · rw [if_neg e3]; exact hs (p + 1) q (by omega) (by omega) hq
  · rw [if_neg e1]
    have hq2 : ¬ (a ≤ q ∧ q < i - 1) := by omega
    rw [if_neg hq2]
    by_cases e3 : p = i - 1
    · rw [if_pos e3, if_neg (by omega)]; exact h2 q (by omega) hq
    · rw [if_neg e3, if_neg (by omega)]; exact hs p q (by omega) hpq hq
theorem down_sorted {a i m : Nat} {d d' : Array α} (hai : a ≤ i) (him : i ≤ m) (h : Down m i d d') (hs : SortT T a m d) (h1 : ∀ t, a ≤ t → t < i → T d[t]! d[m]!) (h2 : ∀ t, i ≤ t → t < m → T d[m]! d[t]!) : SortT T a (m + 1) d' := by
  intro p q hp hpq hq
  rw [h.2, h.2]
  by_cases e1 : i < p ∧ p ≤ m
  · rw [if_pos e1, if_pos (by omega)]; exact hs (p - 1) (q - 1) (by omega) (by omega) (by omega)
  · rw [if_neg e1]
    by_cases e2 : p = i
    · rw [if_pos e2, if_pos (by omega)]; exact h2 (q - 1) (by omega) (by omega)
    · rw [if_neg e2]
      by_cases e3 : i < q ∧ q ≤ m
      · rw [if_pos e3]; exact hs p (q - 1) hp (by omega) (by omega)
      · rw [if_neg e3]
        by_cases e4 : q = i
        · rw [if_pos e4]; exact h1 p hp (by omega)
        · rw [if_neg e4]; exact hs p q hp hpq (by omega)

/-- What symMerge wants. -/
def Merges (lt : α → α → Bool) (T : α → α → Prop) (a m b : Nat) (d : Array α) : Prop := SortT T a m d ∧ SortT T m b d ∧ ∀ i j, a ≤ i → i < m → m ≤ j → j < b → Dec lt T d[i]! d[j]!
/-- The place start at which symMerge cuts. -/
def CutAt (T : α → α → Prop) (a m b mid start : Nat) (d : Array α) : Prop :=
  a ≤ start ∧ start ≤ m ∧ m ≤ mid + m - start ∧ mid + m - start ≤ b ∧ start ≤ mid ∧ (∀ c, a ≤ c → c < start → ∀ t, mid + m - start ≤ t → t < b → T d[c]! d[t]!) ∧ (∀ c, start ≤ c → c < m → ∀ t, m ≤ t → t < mid + m - start → T d[t]! d[c]!)

theorem rot_get {s m e : Nat} {d d1 : Array α} (h : Rotated s m e d d1) (hsm : s ≤ m) (hme : m ≤ e) (t : Nat) :
    (t < s → d1[t]! = d[t]!) ∧ (s ≤ t → t < s + (e - m) → d1[t]! = d[t + (m - s)]!) ∧ (s + (e - m) ≤ t → t < e → d1[t]! = d[t - (e - m)]!) ∧ (e ≤ t → d1[t]! = d[t]!) := by
  have h2 := h.2 t
  unfold rotv at h2
  refine ⟨fun h3 => ?_, fun h3 h4 => ?_, fun h3 h4 => ?_, fun h3 => ?_⟩
  · rw [h2, if_neg (by omega), if_neg (by omega)]
  · rw [h2, if_pos (by omega)]
  · rw [h2, if_neg (by omega), if_pos (by omega)]
  · rw [h2, if_neg (by omega), if_neg (by omega)]

theorem sym_parts {a m b mid start : Nat} {d d1 : Array α} (hm : Merges lt T a m b d) (hc : CutAt T a m b mid start d) (hab : a ≤ mid ∧ mid ≤ b) (hr : Rotated start m (mid + m - start) d d1) :
    Merges lt T a start mid d1 ∧ Merges lt T mid (mid + m - start) b d1 ∧ ∀ i j, a ≤ i → i < mid → mid ≤ j → j < b → T d1[i]! d1[j]! := by
  obtain ⟨c1, c2, c3, c4, c5, c6, c7⟩ := hc
  obtain ⟨s1, s2, s3⟩ := hm
  have g := rot_get hr c2 c3
  have em : start + (mid + m - start - m) = mid := by omega
  have g1 : ∀ t, t < start → d1[t]! = d[t]! := fun t => (g t).1
  have g2 : ∀ t, start ≤ t → t < mid → d1[t]! = d[t + (m - start)]! := fun t h1 h2 => (g t).2.1 h1 (by omega)
  have g3 : ∀ t, mid ≤ t → t < mid + m - start → d1[t]! = d[t - (mid - start)]! := fun t h1 h2 => by
    rw [(g t).2.2.1 (by omega) h2]
    congr 1
    omega
  have g4 : ∀ t, mid + m - start ≤ t → d1[t]! = d[t]! := fun t => (g t).2.2.2
  refine ⟨⟨?_, ?_, ?_⟩, ⟨?_, ?_, ?_⟩, ?_⟩
  · intro i j h1 h2 h3; rw [g1 i (by omega), g1 j h3]; exact s1 i j h1 h2 (by omega)
  · intro i j h1 h2 h3; rw [g2 i h1 (by omega), g2 j (by omega) h3]; exact s2 _ _ (by omega) (by omega) (by omega)
  · intro i j h1 h2 h3 h4; rw [g1 i h2, g2 j h3 h4]; exact s3 _ _ h1 (by omega) (by omega) (by omega)
  · intro i j h1 h2 h3; rw [g3 i h1 (by omega), g3 j (by omega) h3]; exact s1 _ _ (by omega) (by omega) (by omega)
  · intro i j h1 h2 h3; rw [g4 i h1, g4 j (by omega)]; exact s2 _ _ (by omega) h2 h3
  · intro i j h1 h2 h3 h4; rw [g3 i h1 h2, g4 j h3]; exact s3 _ _ (by omega) (by omega) (by omega) h4
  · intro i j h1 h2 h3 h4
    by_cases e1 : i < start
    · rw [g1 i e1]
      by_cases e2 : j < mid + m - start
      · rw [g3 j h3 e2]; exact s1 _ _ h1 (by omega) (by omega)
      · rw [g4 j (by omega)]; exact c6 i h1 e1 j (by omega) h4
    · rw [g2 i (by omega) h2]
      by_cases e2 : j < mid + m - start
      · rw [g3 j h3 e2]; exact c7 _ (by omega) (by omega) _ (by omega) (by omega)
      · rw [g4 j (by omega)]; exact s2 _ _ (by omega) (by omega) h4

theorem sym_join {a mid b : Nat} {d1 d2 d3 : Array α} (hab : a ≤ mid ∧ mid ≤ b) (hb : b ≤ d1.size) (hx : ∀ i j, a ≤ i → i < mid → mid ≤ j → j < b → T d1[i]! d1[j]!) (p2 : PermIn a mid d1 d2) (s2 : SortT T a mid d2) (p3 : PermIn mid b d2 d3) (s3 : SortT T mid b d3) :
    PermIn a b d1 d3 ∧ SortT T a b d3 := by
  have hs2 := p2.1
  have q2 : PermIn a b d1 d2 := permIn_mono _ _ _ _ _ _ (Nat.le_refl _) hab.2 hb p2
  have q3 : PermIn a b d2 d3 := permIn_mono _ _ _ _ _ _ hab.1 (Nat.le_refl _) (by omega) p3
  refine ⟨permIn_trans _ _ _ _ _ q2 q3, fun i j h1 h2 h3 => ?_⟩
  by_cases e1 : j < mid
  · rw [p3.2.1 i (.inl (by omega)), p3.2.1 j (.inl e1)]; exact s2 i j h1 h2 e1
  · by_cases e2 : mid ≤ i
    · exact s3 i j e2 h2 h3
    · rw [p3.2.1 i (.inl (by omega))]
      have hx2 : ∀ t, mid ≤ t → t < b → T d2[i]! d2[t]! := fun t ht1 ht2 => by
        rw [p2.2.1 t (.inr ht1)]
        exact permIn_all d1 d2 a mid (fun x => T x d1[t]!) (by omega) p2 (fun k hk1 hk2 => hx k t hk1 hk2 ht1 ht2) i h1 (by omega)
      exact permIn_all d2 d3 mid b (fun x => T d2[i]! x) (by omega) p3 hx2 j (by omega) h3

/-- i and j lie in one block of bs places. -/
def OneB (bs i j : Nat) : Prop := ∃ s, bs ∣ s ∧ s ≤ i ∧ i < s + bs ∧ s ≤ j ∧ j < s + bs
theorem mult_gap {bs s s' : Nat} (h : bs ∣ s) (h' : bs ∣ s') (hl : s < s') : s + bs ≤ s' := by
  obtain ⟨k, rfl⟩ := h
  obtain ⟨k', rfl⟩ := h'
  have : k < k' := Nat.lt_of_mul_lt_mul_left hl
  have h1 : bs * (k + 1) ≤ bs * k' := Nat.mul_le_mul_left bs (by omega)
  rw [Nat.mul_add, Nat.mul_one] at h1
  exact h1
/-- The blocks up to a are of bs places; from a on they are as E0 tells. -/
def Bl (lt : α → α → Bool) (T : α → α → Prop) (n bs a : Nat) (E0 : Nat → Nat → Prop) (d : Array α) : Prop :=
  ∀ i j, i < j → j < n → (((OneB bs i j ∧ j < a) ∨ (E0 i j ∧ a ≤ i)) → T d[i]! d[j]!) ∧ (¬ ((OneB bs i j ∧ j < a) ∨ (E0 i j ∧ a ≤ i)) → Dec lt T d[i]! d[j]!)

theorem bl_step {n bs a b : Nat} {E0 : Nat → Nat → Prop} {d d' : Array α} (hbl : Bl lt T n bs a E0 d) (hd : bs ∣ a) (hab : a ≤ b) (hbn : b ≤ n) (hbs : b ≤ a + bs) (hend : b = a + bs ∨ b = n) (hn : n ≤ d.size) (hE : ∀ i j, a ≤ i → i < b → b ≤ j → ¬ E0 i j) (hp : PermIn a b d d') (hs : SortT T a b d') :
    Bl lt T n bs b E0 d' := by
  intro i j hij hj
  have hout : ∀ t, t < a ∨ b ≤ t → d'[t]! = d[t]! := hp.2.1
  by_cases ia : i < a
  · by_cases ja : j < a
    · rw [hout i (.inl ia), hout j (.inl ja)]
      obtain ⟨h1, h2⟩ := hbl i j hij hj
      refine ⟨fun h => h1 ?_, fun h => h2 ?_⟩
      · rcases h with h | h
        · exact .inl ⟨h.1, ja⟩
        · exact absurd h.2 (by omega)
      · rintro (h3 | h3)
        · exact h (.inl ⟨h3.1, by omega⟩)
        · omega
    · have hno : ∀ t, a ≤ t → ¬ OneB bs i t := by
        rintro t ht ⟨s, hs1, hs2, hs3, hs4, hs5⟩
        have := mult_gap hs1 hd (by omega)
        omega
      refine ⟨fun h => ?_, fun _ => ?_⟩
      · rcases h with h | h
        · exact absurd h.1 (hno j (by omega))
        · omega
      · rw [hout i (.inl ia)]
        by_cases jb : j < b
        · exact permIn_all d d' a b (fun x => Dec lt T d[i]! x) (by omega) hp (fun k hk1 hk2 => (hbl i k (by omega) (by omega)).2 (fun h3 => h3.elim (fun h4 => hno k hk1 h4.1) (fun h4 => by omega))) j (by omega) jb
        · rw [hout j (.inr (by omega))]
          exact (hbl i j hij hj).2 (fun h3 => h3.elim (fun h4 => hno j (by omega) h4.1) (fun h4 => by omega))
  · by_cases ib : i < b
    · by_cases jb : j < b
      · refine ⟨fun _ => hs i j (by omega) hij jb, fun h => ?_⟩
        exact absurd (.inl ⟨⟨a, hd, by omega, by omega, by omega, by omega⟩, jb⟩) h
      · have hno : ∀ k, a ≤ k → k < b → ¬ ((OneB bs k j ∧ j < a) ∨ (E0 k j ∧ a ≤ k)) := by
          rintro k hk1 hk2 (h3 | h3)
          · omega
          · exact hE k j hk1 hk2 (by omega) h3.1
        refine ⟨fun h => ?_, fun _ => ?_⟩
        · rcases h with h | h
          · omega
          · omega
        · rw [hout j (.inr (by omega))]
          exact permIn_all d d' a b (fun x => Dec lt T x d[j]!) (by omega) hp (fun k hk1 hk2 => (hbl k j (by omega) hj).2 (hno k hk1 hk2)) i (by omega) ib
    · rw [hout i (.inr (by omega)), hout j (.inr (by omega))]
      obtain ⟨h1, h2⟩ := hbl i j hij hj
      refine ⟨fun h => h1 ?_, fun h => h2 ?_⟩
      · rcases h with h | h
        · omega
        · exact .inr ⟨h.1, by omega⟩
      · rintro (h3 | h3)
        · omega
        · exact h (.inr ⟨h3.1, by omega⟩)
theorem bl_done {n bs a : Nat} {E0 : Nat → Nat → Prop} {d : Array α} (h : Bl lt T n bs a E0 d) (ha : n ≤ a) (bs2 : Nat) : Bl lt T n bs2 0 (OneB bs) d := by
  intro i j hij hj
  obtain ⟨h1, h2⟩ := h i j hij hj
  refine ⟨fun h3 => h1 ?_, fun h3 => h2 ?_⟩
  · rcases h3 with h3 | h3
    · omega
    · exact .inl ⟨h3.1, by omega⟩
  · rintro (h4 | h4)
    · exact h3 (.inr ⟨h4.1, by omega⟩)
    · omega
theorem bl_all {n bs bs2 : Nat} {d : Array α} (h : Bl lt T n bs2 0 (OneB bs) d) (hn : n ≤ bs) : SortT T 0 n d := by
  intro i j _ hij hj
  exact (h i j hij hj).1 (.inr ⟨⟨0, Nat.dvd_zero _, by omega, by omega, by omega, by omega⟩, by omega⟩)
theorem bl_merges {n bs a b : Nat} {d : Array α} (h : Bl lt T n (2 * bs) a (OneB bs) d) (hd : 2 * bs ∣ a) (hbs : 0 < bs) (hm : a + bs < b) (hb : b ≤ n) (hb2 : b ≤ a + 2 * bs) : Merges lt T a (a + bs) b d := by
  have hd1 : bs ∣ a := Nat.dvd_trans ⟨2, by rw [Nat.mul_comm]⟩ hd
  have hd2 : bs ∣ a + bs := Nat.dvd_add hd1 (Nat.dvd_refl _)
  refine ⟨fun i j h1 h2 h3 => ?_, fun i j h1 h2 h3 => ?_, fun i j h1 h2 h3 h4 => ?_⟩
  · exact (h i j h2 (by omega)).1 (.inr ⟨⟨a, hd1, by omega, by omega, by omega, by omega⟩, h1⟩)
  · exact (h i j h2 (by omega)).1 (.inr ⟨⟨a + bs, hd2, by omega, by omega, by omega, by omega⟩, by omega⟩)
  · refine (h i j (by omega) (by omega)).2 ?_
    rintro (h5 | ⟨⟨s, hs1, hs2, hs3, hs4, hs5⟩, _⟩)
    · omega
    · have := mult_gap hd1 hs1 (by omega)
      omega
theorem bl_alone {n bs a : Nat} {d : Array α} (h : Bl lt T n (2 * bs) a (OneB bs) d) (hd : 2 * bs ∣ a) (hm : n ≤ a + bs) : SortT T a n d := by
  have hd1 : bs ∣ a := Nat.dvd_trans ⟨2, by rw [Nat.mul_comm]⟩ hd
  intro i j h1 h2 h3
  exact (h i j h2 h3).1 (.inr ⟨⟨a, hd1, by omega, by omega, by omega, by omega⟩, h1⟩)
theorem oneB_apart {bs a b i j : Nat} (hd : bs ∣ b) (hi : i < b) (hj : b ≤ j) : ¬ OneB bs i j := by
  rintro ⟨s, hs1, hs2, hs3, hs4, hs5⟩
  have := mult_gap hs1 hd (by omega)
  omega
/-- Two ranges exchanged, nothing lost. -/
def SwR (n a b cnt : Nat) (d d' : Array α) : Prop := Swapped a b cnt d d' ∧ ∀ lo hi, lo ≤ a → b + cnt ≤ hi → hi ≤ n → PermIn lo hi d d'
/-- Two neighbour ranges exchanged, nothing lost. -/
def RoR (n a m b : Nat) (d d' : Array α) : Prop := Rotated a m b d d' ∧ ∀ lo hi, lo ≤ a → b ≤ hi → hi ≤ n → PermIn lo hi d d'
theorem ror_none {n s m e : Nat} (d : Array α) (h : s = m ∨ e = m) (hsm : s ≤ m) (hme : m ≤ e) : RoR n s m e d d := by
  refine ⟨⟨rfl, fun t => ?_⟩, fun lo hi _ _ _ => permIn_refl _ _ _⟩
  unfold rotv
  rcases h with h | h
  · subst h
    by_cases e1 : s ≤ t ∧ t < s + (e - s)
    · rw [if_pos e1]; congr 1; omega
    · rw [if_neg e1, if_neg (by omega)]
  · subst h
    by_cases e1 : s ≤ t ∧ t < s + (e - e)
    · omega
    · rw [if_neg e1]
      by_cases e2 : s + (e - e) ≤ t ∧ t < e
      · rw [if_pos e2]; congr 1; omega
      · rw [if_neg e2]
/-- What the search of the cut holds: lo and hi are where it began. -/
def Seek (T : α → α → Prop) (lo hi p s r : Nat) (d : Array α) : Prop := (∀ c, lo ≤ c → c < s → T d[c]! d[p - c]!) ∧ (∀ c, r ≤ c → c < hi → T d[p - c]! d[c]!)
theorem seek_up (htr : ∀ x y z, T x y → T y z → T x z) {a m b lo hi p s r c : Nat} {d : Array α} (hm : Merges lt T a m b d) (hl : a ≤ lo) (hh : hi ≤ m) (h1 : ∀ c, lo ≤ c → c < hi → m ≤ p - c ∧ p - c < b ∧ c ≤ p) (hs : Seek T lo hi p s r d) (hc : s ≤ c) (hcr : c < r) (hls : lo ≤ s) (hr : r ≤ hi) (hlt : lt d[p - c]! d[c]! = false) : Seek T lo hi p (c + 1) r d := by
  obtain ⟨s1, s2, s3⟩ := hm
  have hcc := h1 c (by omega) (by omega)
  have ht := (s3 c (p - c) (by omega) (by omega) hcc.1 hcc.2.1).2 hlt
  refine ⟨fun c' h2 h3 => ?_, hs.2⟩
  have hc' := h1 c' h2 (by omega)
  rcases Nat.lt_or_ge c' c with h4 | h4
  · exact htr _ _ _ (s1 c' c (by omega) h4 (by omega)) (htr _ _ _ ht (s2 (p - c) (p - c') hcc.1 (by omega) hc'.2.1))
  · obtain rfl : c' = c := by omega
    exact ht
theorem seek_down (htr : ∀ x y z, T x y → T y z → T x z) {a m b lo hi p s r c : Nat} {d : Array α} (hm : Merges lt T a m b d) (hl : a ≤ lo) (hh : hi ≤ m) (h1 : ∀ c, lo ≤ c → c < hi → m ≤ p - c ∧ p - c < b ∧ c ≤ p) (hs : Seek T lo hi p s r d) (hc : s ≤ c) (hcr : c < r) (hls : lo ≤ s) (hr : r ≤ hi) (hlt : lt d[p - c]! d[c]! = true) : Seek T lo hi p s c d := by
  obtain ⟨s1, s2, s3⟩ := hm
  have hcc := h1 c (by omega) (by omega)
  have ht := (s3 c (p - c) (by omega) (by omega) hcc.1 hcc.2.1).1 hlt
  refine ⟨hs.1, fun c' h2 h3 => ?_⟩
  have hc' := h1 c' (by omega) h3
  rcases Nat.lt_or_ge c c' with h4 | h4
  · exact htr _ _ _ (s2 (p - c') (p - c) hc'.1 (by omega) hcc.2.1) (htr _ _ _ ht (s1 c c' (by omega) h4 (by omega)))
  · obtain rfl : c' = c := by omega
    exact ht
theorem seek_cut (htr : ∀ x y z, T x y → T y z → T x z) {a m b mid lo hi s : Nat} {d : Array α} (hm : Merges lt T a m b d) (ham : a < m) (hmb : m < b) (hmid : mid = (a + b) / 2) (hlh : (mid < m ∧ lo = mid + m - b ∧ hi = mid) ∨ (m ≤ mid ∧ lo = a ∧ hi = m)) (hs : Seek T lo hi (mid + m - 1) s s d) (hls : lo ≤ s) (hsh : s ≤ hi) : CutAt T a m b mid s d := by
  obtain ⟨s1, s2, s3⟩ := hm
  refine ⟨by omega, by omega, by omega, by omega, by omega, fun c h1 h2 t h3 h4 => ?_, fun c h1 h2 t h3 h4 => ?_⟩
  · have hlo : lo < s := by omega
    have h5 := hs.1 (s - 1) (by omega) (by omega)
    have e : mid + m - 1 - (s - 1) = mid + m - s := by omega
    rw [e] at h5
    have h6 : T d[c]! d[mid + m - s]! := by
      rcases Nat.lt_or_ge c (s - 1) with h7 | h7
      · exact htr _ _ _ (s1 c (s - 1) h1 h7 (by omega)) h5
      · obtain rfl : c = s - 1 := by omega
        exact h5
    rcases Nat.lt_or_ge (mid + m - s) t with h7 | h7
    · exact htr _ _ _ h6 (s2 _ t (by omega) h7 h4)
    · obtain rfl : t = mid + m - s := by omega
      exact h6
  · have hhi : s < hi := by omega
    have h5 := hs.2 s (Nat.le_refl _) hhi
    have h6 : T d[t]! d[s]! := by
      rcases Nat.lt_or_ge t (mid + m - 1 - s) with h7 | h7
      · exact htr _ _ _ (s2 t _ h3 h7 (by omega)) h5
      · obtain rfl : t = mid + m - 1 - s := by omega
        exact h5
    rcases Nat.lt_or_ge s c with h7 | h7
    · exact htr _ _ _ h6 (s1 s c (by omega) h7 h2)
    · obtain rfl : c = s := by omega
      exact h6
theorem merges_one {a s e : Nat} {d : Array α} (h : Merges lt T a s e d) (hs : s = a ∨ s = e) : SortT T a e d := by
  rcases hs with rfl | rfl
  · exact h.2.1
  · exact h.1
end

end Go.Proofs.Ytiioojnoggcnmaa

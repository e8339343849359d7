/-
  What is proved here: the contract of SortRows of the thin package: rows sorted by one key after the other, each time so that equal ones keep their order; condition: at most 2^42 rows.
-/
import Derived.Test.YtiioojnoggcnmaaRowSort
import Derived.Test.YtiioojnoggcnmaaUnite
namespace Go.Proofs.Ytiioojnoggcnmaa
open Go.RowKit
set_option linter.unusedVariables false

theorem stab_ex {α : Type} [Inhabited α] {lt : α → α → Bool} (hO : Go.Sort.SWO lt) (l : List α) : ∃ l', Stab lt l l' := by
  have h := insertion_T (lt := fun x y : α × Nat => lt x.1 y.1) (T := Tt lt) (tt_trans hO) 0 l.length (tagged l) (Nat.zero_le _) (by rw [tagged_size]; exact Nat.le_refl _) (fun i j _ h2 h3 => tagged_dec l i j h2 h3)
  exact ⟨_, tagged_stab h.1 h.2⟩
/-- Rows sorted by one key. -/
noncomputable def ssort (k : Nat) (l : List (Int × Int × Int)) : List (Int × Int × Int) := Classical.choose (stab_ex (swo_ltKey k) l)
theorem ssort_is (k : Nat) (l : List (Int × Int × Int)) : Stab (ltKey k) l (ssort k l) := Classical.choose_spec (stab_ex (swo_ltKey k) l)
theorem ssort_eq {k : Nat} {l l' : List (Int × Int × Int)} (h : Stab (ltKey k) l l') : l' = ssort k l := stab_unique (swo_ltKey k) h (ssort_is k l)
/-- Rows sorted by one key after the other. -/
noncomputable def rsort (l : List (Int × Int × Int)) (ks : List Int) : List (Int × Int × Int) := ks.foldl (fun l z => ssort (z % 3).toNat l) l
theorem rsort_take {l : List (Int × Int × Int)} {ks : List Int} {j : Nat} {z : Int} (h : ks[j]? = some z) : rsort l (ks.take (j + 1)) = ssort (z % 3).toNat (rsort l (ks.take j)) := by
  unfold rsort
  rw [List.take_add_one, h, List.foldl_append]
  rfl
theorem rsort_perm (l : List (Int × Int × Int)) (ks : List Int) : (rsort l ks).Perm l := by
  unfold rsort
  induction ks generalizing l with
  | nil => exact List.Perm.refl _
  | cons z r ih => exact (ih _).trans (ssort_is _ l).perm
theorem rsort_len (l : List (Int × Int × Int)) (ks : List Int) : (rsort l ks).length = l.length := (rsort_perm l ks).length_eq

theorem own_box_neR {T E : TypeId} {B g cap n bl : Nat} {w : World} {L : List (Int × Int × Int)} {cs : Array Value} (h : OwnK 3 enc3 E B w (.slice (some ⟨g, 0, none⟩) n cap) L) (hb : w.heap[bl]? = some (.cells cs T (0, 0))) (hne : E ≠ T) : bl ≠ g := by
  rintro rfl
  rcases h.2 with ⟨h0, _⟩ | ⟨g', cap', cur, h0, hB, hg, _⟩
  · simp at h0
  · simp only [Value.slice.injEq, Option.some.injEq, Addr.mk.injEq, and_true] at h0
    obtain ⟨rfl, _⟩ := h0
    rw [hb] at hg
    injection hg with hg
    injection hg with _ hg
    exact hne hg.symm

set_option maxRecDepth 100000 in
set_option maxHeartbeats 2000000 in
theorem sortRows_some (va vb : Value) (xs : List (Int × Int × Int)) (ks : List Int) (w : World) (ha : Ros3 w va xs) (hb : Ro w vb ks) (hn : xs.length ≤ 5864062014805) (hk : ks.length ≤ 17592186044416) :
    Calls Try.prog 22 #[va, vb] w (MadeKS 3 enc3 45 (rsort xs ks) w) := by
  have HRA := Lib.hid ha
  have HRB := Lib.hid hb
  obtain ⟨A, c, b, off, rfl, hnc, hcm, -, -⟩ := ha.shape
  obtain ⟨A1, c1, b1, off1, rfl, hnc1, hcm1, -, -⟩ := Ro.shape hb
  obtain ⟨n, hxn⟩ : ∃ n, n = xs.length := ⟨_, rfl⟩
  obtain ⟨m, hym⟩ : ∃ m, m = ks.length := ⟨_, rfl⟩
  rw [← hxn] at HRA hn hnc ⊢
  rw [← hym] at HRB hk hnc1 ⊢
  have HX := Lib.hid hxn
  have HY := Lib.hid hym
  clear hxn hym ha hb
  unfold maxLen at hcm hcm1
  go_enter Try.func22, Try.ntmps22
  go_wp2_with (at_builtin; refine wpList_app _ rfl (.tmp 8) (.tmp 9) rfl rows_ok w.heap.size w.heap.size 0 0 [] (by rfl) (ownE _ (Nat.le_refl _)) _ n c (cellsK enc3 xs) (by rfl) ((RoK.src len_enc3 (by omega) HRA.out).2.alloc _) (by unfold maxLen; omega) (by omega) (by simp) n (by omega) _ rfl ?_; intro g2 cap2 w2 hown2 hgrow2 hat2)
  obtain ⟨hg2B, hg2l⟩ := hown2.lt g2 rfl
  have hb2 : Below w.heap.size w w2 := below_app hgrow2 (Nat.le_refl _) ((Below.refl _ _).alloc (Nat.le_refl _) _)
  have hs2 := hb2.size
  have ho2 : OwnK 3 enc3 45 w.heap.size w2 (.slice (some ⟨g2, 0, none⟩) n cap2) xs := by
    unfold OwnK
    rw [← HX.out]
    simpa using hown2
  have HO2 := Lib.hid (show OwnK 3 enc3 45 w.heap.size (w2.alloc (.cells #[.slice (some ⟨g2, 0, none⟩) n cap2] 31)) (.slice (some ⟨g2, 0, none⟩) n cap2) xs from World.ownsRow.alloc ho2 _)
  have HBX := Lib.hid (show (w2.alloc (.cells #[.slice (some ⟨g2, 0, none⟩) n cap2] 31)).cell? ⟨w2.heap.size, 0, none⟩ = some (.slice (some ⟨g2, 0, none⟩) n cap2) by simp [go_sem])
  have hb3 : Below w.heap.size w (w2.alloc (.cells #[.slice (some ⟨g2, 0, none⟩) n cap2] 31)) := hb2.alloc hs2 _
  clear hown2 hgrow2 hat2 ho2
  go_wp2_with fail
  go_loopg [13] m (fun kx s13 wr => ∃ (j : Nat) (L : List (Int × Int × Int)), s13 = .int .i64 j ∧ j ≤ m ∧ m - j ≤ kx ∧ Below w.heap.size w wr ∧ w2.heap.size < wr.heap.size ∧ Hid (wr.cell? ⟨w2.heap.size, 0, none⟩ = some (.slice (some ⟨g2, 0, none⟩) n cap2)) ∧
    Hid (L = rsort xs (ks.take j)) ∧ Hid (OwnK 3 enc3 45 w.heap.size wr (.slice (some ⟨g2, 0, none⟩) n cap2) L))
  case atStart => exact ⟨0, xs, rfl, Nat.zero_le _, by omega, hb3, by simp, HBX.out, rfl, HO2.out⟩
  case round =>
    clear HO2 HBX hb3
    obtain ⟨j, L, rfl, hj, hjk, hb, hsz, HC, HL, HO⟩ := hrel
    have hcx := HC.out
    by_cases hlt : j < m
    · obtain ⟨z, hz⟩ := get_some HY.out hlt
      obtain ⟨b3, o3, rfl, hc, hbl⟩ := (HRB.out.below hb).at hz
      have HST := Lib.hid (rsort_take (l := xs) hz)
      clear hz
      obtain ⟨t, ht⟩ : ∃ t, t = z % 3 := ⟨_, rfl⟩
      have ht0 : 0 ≤ t := by rw [ht]; exact Int.emod_nonneg _ (by decide)
      have ht3 : t < 3 := by rw [ht]; exact Int.emod_lt_of_pos _ (by decide)
      have HT := Lib.hid ht
      clear ht
      have HS0 := Lib.hid (stable_rows0 w.heap.size g2 n cap2 w2.heap.size L wr HO.out (by omega) HC.out hsz (by omega))
      have HS1 := Lib.hid (stable_rows1 w.heap.size g2 n cap2 w2.heap.size L wr HO.out (by omega) HC.out hsz (by omega))
      have HS2 := Lib.hid (stable_rows2 w.heap.size g2 n cap2 w2.heap.size L wr HO.out (by omega) HC.out hsz (by omega))
      go_wp2_with fail
      refine (at_any z 3 _ (by omega) (by omega)).mono ?_
      rw [← HT.out]
      rintro e w' ⟨rfl, rfl⟩
      obtain h | h | h : t = 0 ∨ t = 1 ∨ t = 2 := by omega
      · subst h
        clear ht0 ht3
        go_wp2_with fail
        refine HS0.out.mono ?_
        rintro e w3 ⟨l, rfl, ho3, hst, hg3⟩
        have HO3 := Lib.hid ho3
        have HC3 := Lib.hid (hg3.cell HC.out (fun e => by injection e with e; simp only at e; omega))
        have hb4 : Below w.heap.size w w3 := hb.grown hg3 hb.size (fun k hk => by injection hk with hk; omega)
        have hs4 := hg3.size
        have HN : Hid (l = rsort xs (ks.take (j + 1))) := by
          show l = _
          rw [HST.out, ← HT.out, ← HL.out]
          exact ssort_eq hst
        clear ho3 hst hg3 HS0 HS1 HS2
        go_wp2_with fail
        go_roundg (m - (j + 1))
        case measure => omega
        case rel => exact ⟨j + 1, l, by go_num, by omega, by omega, hb4, by omega, HC3.out, HN.out, HO3.out⟩
      · subst h
        clear ht0 ht3
        go_wp2_with fail
        refine HS1.out.mono ?_
        rintro e w3 ⟨l, rfl, ho3, hst, hg3⟩
        have HO3 := Lib.hid ho3
        have HC3 := Lib.hid (hg3.cell HC.out (fun e => by injection e with e; simp only at e; omega))
        have hb4 : Below w.heap.size w w3 := hb.grown hg3 hb.size (fun k hk => by injection hk with hk; omega)
        have hs4 := hg3.size
        have HN : Hid (l = rsort xs (ks.take (j + 1))) := by
          show l = _
          rw [HST.out, ← HT.out, ← HL.out]
          exact ssort_eq hst
        clear ho3 hst hg3 HS0 HS1 HS2
        go_wp2_with fail
        go_roundg (m - (j + 1))
        case measure => omega
        case rel => exact ⟨j + 1, l, by go_num, by omega, by omega, hb4, by omega, HC3.out, HN.out, HO3.out⟩
      · subst h
        clear ht0 ht3
        go_wp2_with fail
        refine HS2.out.mono ?_
        rintro e w3 ⟨l, rfl, ho3, hst, hg3⟩
        have HO3 := Lib.hid ho3
        have HC3 := Lib.hid (hg3.cell HC.out (fun e => by injection e with e; simp only at e; omega))
        have hb4 : Below w.heap.size w w3 := hb.grown hg3 hb.size (fun k hk => by injection hk with hk; omega)
        have hs4 := hg3.size
        have HN : Hid (l = rsort xs (ks.take (j + 1))) := by
          show l = _
          rw [HST.out, ← HT.out, ← HL.out]
          exact ssort_eq hst
        clear ho3 hst hg3 HS0 HS1 HS2
        go_wp2_with fail
        go_roundg (m - (j + 1))
        case measure => omega
        case rel => exact ⟨j + 1, l, by go_num, by omega, by omega, hb4, by omega, HC3.out, HN.out, HO3.out⟩
    · obtain rfl : j = m := by omega
      have HF : Hid (OwnK 3 enc3 45 w.heap.size wr (.slice (some ⟨g2, 0, none⟩) n cap2) (rsort xs ks)) := by
        have h1 := HO.out
        rw [HL.out, List.take_of_length_le (by rw [← HY.out]; exact Nat.le_refl _)] at h1
        exact h1
      go_wp2_with fail
      go_ret
      exact ⟨_, _, _, rfl, HF.out, hb⟩
theorem sortRows_any (va vb : Value) (xs : List (Int × Int × Int)) (ks : List Int) (w : World) (ha : Ros3 w va xs) (hb : Ro w vb ks) (hn : xs.length ≤ 5864062014805) (hk : ks.length ≤ 17592186044416) :
    Calls Try.prog 22 #[va, vb] w (MadeK 3 enc3 45 (rsort xs ks) w) := (sortRows_some va vb xs ks w ha hb hn hk).mono fun _ _ h => h.made

end Go.Proofs.Ytiioojnoggcnmaa

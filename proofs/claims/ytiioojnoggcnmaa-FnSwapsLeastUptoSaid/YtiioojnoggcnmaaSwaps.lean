/-
  What is proved here: the contracts of impl.Swaps, StableSwaps and FallingSwaps: the sorted list, and the number of exchanges that have made it; condition: at most 2^44 elements. Written by wip/gen/swaps.py.
-/
import Derived.Test.YtiioojnoggcnmaaRevRel
import Derived.Test.YtiioojnoggcnmaaAsc
import Derived.Deep.QuietTactic
namespace Go.Proofs.Ytiioojnoggcnmaa
open Go.RowKit Go.Sort
set_option linter.unusedVariables false

/-- What a call has made: a new list ys, and the number of exchanges that have made it from xs, of which there are at most 'most'. -/
def SwapsMade (n most : Nat) (xs ys : List Int) (w : World) (e : Ending) (w' : World) : Prop :=
  ∃ (g cap k : Nat), e = .returned (.tuple #[.slice (some ⟨g, 0, none⟩) n cap, .int .i64 (wrap64 (k : Int))]) ∧ Own 3 w.heap.size w' (.slice (some ⟨g, 0, none⟩) n cap) ys ∧ Below w.heap.size w w' ∧ k ≤ most ∧ ∃ d, Tr n xs.toArray k d ∧ d.toList = ys

theorem two_below {w W W' : World} {g cb : Nat} (hb : RowKit.Below w.heap.size w W) (h : Two W g cb W') (hg : w.heap.size ≤ g) (hc : w.heap.size ≤ cb) : RowKit.Below w.heap.size w W' :=
  ⟨h.1.trans hb.os, h.2.1.trans hb.tape, h.2.2.1.trans hb.output, Nat.le_trans hb.size h.2.2.2.1, fun k hk => (h.2.2.2.2 k (Nat.lt_of_lt_of_le hk hb.size) (by omega) (by omega)).trans (hb.block k hk)⟩
theorem le_sorted {n : Nat} {d : Array Int} (h : SortT (fun x y : Int => x ≤ y) 0 n d) : SortedIn ltInt 0 n d := fun i j h1 h2 h3 => by
  have := h i j h1 h2 h3
  simp [ltInt]
  omega
theorem ge_sorted {xs : List Int} {d : Array Int} (hp : PermIn 0 xs.toArray.size xs.toArray d) (hs : SortedIn gtInt 0 xs.toArray.size d) : d.toList = (asc xs).reverse := by
  have hsz : d.size = xs.length := by have := hp.1; simpa using this
  have hperm : d.toList.Perm xs := by
    have h := hp.2.2
    rw [show d.extract 0 xs.toArray.size = d by rw [List.size_toArray, ← hsz]; simp, show xs.toArray.extract 0 xs.toArray.size = xs.toArray by simp] at h
    simpa using h
  have ha : Asc d.toList.reverse := by
    unfold Asc
    rw [List.pairwise_reverse, List.pairwise_iff_getElem]
    intro i j hi hj hij
    have h1 := hs i j (Nat.zero_le _) hij (by simp; simp at hj; omega)
    simp only [gtInt, ltInt] at h1
    have e1 : d[i]! = d.toList[i] := by simp at hi; rw [getElem!_pos d i hi]; simp
    have e2 : d[j]! = d.toList[j] := by simp at hj; rw [getElem!_pos d j hj]; simp
    rw [e1, e2] at h1
    simp at h1
    simp
    omega
  have := asc_eq ha ((List.reverse_perm _).trans hperm)
  rw [← this, List.reverse_reverse]

theorem cnt_start {B0 g n cap : Nat} {xs : List Int} {w2 : World} (h : Own 3 B0 w2 (.slice (some ⟨g, 0, none⟩) n cap) xs) :
    CntAt B0 g n cap w2.heap.size xs.toArray (w2.alloc (.cells #[.slice (some ⟨g, 0, none⟩) n cap, .int .i64 0] 51)) 0 (w2.alloc (.cells #[.slice (some ⟨g, 0, none⟩) n cap, .int .i64 0] 51)) xs.toArray := by
  refine ⟨0, Nat.le_refl _, rfl, ?_, by simp [go_sem], by simp [go_sem, wrap64], by simp, ⟨rfl, rfl, rfl, Nat.le_refl _, fun _ _ _ _ => rfl⟩⟩
  have := h.below ((RowKit.Below.refl _ _).alloc (Nat.le_refl _) (.cells #[.slice (some ⟨g, 0, none⟩) n cap, .int .i64 0] 51))
  exact this

set_option maxRecDepth 100000 in
set_option maxHeartbeats 2000000 in
theorem swaps_any (v : Value) (xs : List Int) (w : World) (h : Ro w v xs) (hn : xs.length ≤ 17592186044416) :
    Calls Try.prog 11 #[v] w (SwapsMade xs.length (20 * (xs.length + 1) * xs.length) xs (asc xs) w) := by
  have h0 := h
  obtain ⟨A, c, b, off, rfl, hnc, hcm, ha, hcell⟩ := h
  obtain ⟨n, hxn⟩ : ∃ n, n = xs.length := ⟨_, rfl⟩
  have hszx : xs.toArray.size = n := by rw [hxn]; simp
  rw [← hxn] at h0 hn hnc ha ⊢
  have HR := Lib.hid h0.src.2
  have HX := Lib.hid hxn
  clear h0 hcell ha hxn
  go_enter Try.func11, Try.ntmps11
  go_wp2_with (at_builtin; refine wpList_app _ rfl (.tmp 5) (.tmp 6) rfl ints_ok w.heap.size w.heap.size 0 0 [] (by rfl) (ownE _ (Nat.le_refl _)) _ n c (xs.map (Value.int .i64)) (by rfl) (HR.out.alloc _) (by unfold maxLen; omega) (by omega) (by simp) n (by omega) _ rfl ?_; intro g2 cap2 w2 hown2 hgrow2 hat2)
  obtain ⟨hg2B, hg2l⟩ := hown2.lt g2 rfl
  have hb1 : Below w.heap.size w w2 := below_app hgrow2 (Nat.le_refl _) ((Below.refl _ _).alloc (Nat.le_refl _) _)
  have hO2 : Own 3 w.heap.size w2 (.slice (some ⟨g2, 0, none⟩) n cap2) xs := by
    unfold Own
    rw [← HX.out]
    exact hown2
  obtain ⟨W2, hW2⟩ : ∃ W2, W2 = w2.alloc (.cells #[.slice (some ⟨g2, 0, none⟩) n cap2, .int .i64 0] 51) := ⟨_, rfl⟩
  have HC0 : Hid (CntAt w.heap.size g2 n cap2 w2.heap.size xs.toArray W2 0 W2 xs.toArray) := by rw [hW2]; exact cnt_start hO2
  have hb2 : Below w.heap.size w W2 := by rw [hW2]; exact hb1.alloc hb1.size _
  have hs2 : W2.heap.size = w2.heap.size + 1 := by rw [hW2]; simp
  have hne2 : w2.heap.size ≠ g2 := by omega
  have hgl2 : g2 < W2.heap.size := by omega
  have hcl2 : w2.heap.size < W2.heap.size := by omega
  have hw2 : w.heap.size ≤ w2.heap.size := hb1.size
  clear hown2 hgrow2 hat2 hO2 hb1
  have HC := Lib.hid (sort_if (cnt_rel (d0 := xs.toArray) (cap := cap2) (B0 := w.heap.size) hne2 hgl2 hcl2 (by omega)) (cnt_len (n := n) (d0 := xs.toArray) (cap := cap2) (B0 := w.heap.size) hne2 hgl2 hcl2) swo_ltInt (by omega) 0 xs.toArray _ HC0.out)
  clear HC0
  rw [← hW2]
  refine HC.out.mono ?_
  rintro e w3 ⟨rfl, d', ⟨hp, hs⟩, hR3, hP3⟩
  have hys : d'.toList = asc xs := (sorted_asc (by rw [hszx]; exact hp) (by rw [hszx]; exact hs)).2
  obtain ⟨k, q1, q2, q3, q4, q5, q6, q7⟩ := hR3
  have HY := Lib.hid hys
  have HT := Lib.hid q2
  have HO := Lib.hid q3
  have hb4 : Below w.heap.size w w3 := two_below hb2 q7 hg2B hw2
  have HK := Lib.hid q1
  clear q1 q2 q3 q6 q7 hp hs hP3 HC hys hb2 hW2
  go_wp2_with fail
  go_quiet (fail)
  go_wp2
  go_ret2
  refine ⟨g2, cap2, k, rfl, ?_, ⟨hb4.os, hb4.tape, hb4.output, hb4.size, hb4.block⟩, by have := HK.out; omega, d', HT.out, HY.out⟩
  have h5 := HO.out
  rw [HY.out] at h5
  exact own_atI h5 rfl

set_option maxRecDepth 100000 in
set_option maxHeartbeats 2000000 in
theorem stableSwaps_any (v : Value) (xs : List Int) (w : World) (h : Ro w v xs) (hn : xs.length ≤ 17592186044416) :
    Calls Try.prog 12 #[v] w (SwapsMade xs.length (2 * (20 + 2 * xs.length) * xs.length) xs (asc xs) w) := by
  have h0 := h
  obtain ⟨A, c, b, off, rfl, hnc, hcm, ha, hcell⟩ := h
  obtain ⟨n, hxn⟩ : ∃ n, n = xs.length := ⟨_, rfl⟩
  have hszx : xs.toArray.size = n := by rw [hxn]; simp
  rw [← hxn] at h0 hn hnc ha ⊢
  have HR := Lib.hid h0.src.2
  have HX := Lib.hid hxn
  clear h0 hcell ha hxn
  go_enter Try.func12, Try.ntmps12
  go_wp2_with (at_builtin; refine wpList_app _ rfl (.tmp 5) (.tmp 6) rfl ints_ok w.heap.size w.heap.size 0 0 [] (by rfl) (ownE _ (Nat.le_refl _)) _ n c (xs.map (Value.int .i64)) (by rfl) (HR.out.alloc _) (by unfold maxLen; omega) (by omega) (by simp) n (by omega) _ rfl ?_; intro g2 cap2 w2 hown2 hgrow2 hat2)
  obtain ⟨hg2B, hg2l⟩ := hown2.lt g2 rfl
  have hb1 : Below w.heap.size w w2 := below_app hgrow2 (Nat.le_refl _) ((Below.refl _ _).alloc (Nat.le_refl _) _)
  have hO2 : Own 3 w.heap.size w2 (.slice (some ⟨g2, 0, none⟩) n cap2) xs := by
    unfold Own
    rw [← HX.out]
    exact hown2
  obtain ⟨W2, hW2⟩ : ∃ W2, W2 = w2.alloc (.cells #[.slice (some ⟨g2, 0, none⟩) n cap2, .int .i64 0] 51) := ⟨_, rfl⟩
  have HC0 : Hid (CntAt w.heap.size g2 n cap2 w2.heap.size xs.toArray W2 0 W2 xs.toArray) := by rw [hW2]; exact cnt_start hO2
  have hb2 : Below w.heap.size w W2 := by rw [hW2]; exact hb1.alloc hb1.size _
  have hs2 : W2.heap.size = w2.heap.size + 1 := by rw [hW2]; simp
  have hne2 : w2.heap.size ≠ g2 := by omega
  have hgl2 : g2 < W2.heap.size := by omega
  have hcl2 : w2.heap.size < W2.heap.size := by omega
  have hw2 : w.heap.size ≤ w2.heap.size := hb1.size
  clear hown2 hgrow2 hat2 hO2 hb1
  have HC := Lib.hid (stableS_if (T := fun x y : Int => x ≤ y) (fun x y z h1 h2 => Int.le_trans h1 h2) (cnt_rel (d0 := xs.toArray) (cap := cap2) (B0 := w.heap.size) hne2 hgl2 hcl2 (by omega)) (cnt_len (n := n) (d0 := xs.toArray) (cap := cap2) (B0 := w.heap.size) hne2 hgl2 hcl2) (by omega) 0 xs.toArray _ HC0.out (fun i j _ _ => ⟨fun h => by simp only [ltInt, decide_eq_true_eq] at h; show _ ≤ _; omega, fun h => by simp only [ltInt, decide_eq_false_iff_not] at h; show _ ≤ _; omega⟩))
  clear HC0
  rw [← hW2]
  refine HC.out.mono ?_
  rintro e w3 ⟨rfl, d', ⟨hp, hs⟩, hR3, hP3⟩
  have hys : d'.toList = asc xs := (sorted_asc (by rw [hszx]; exact hp) (by rw [hszx]; exact le_sorted hs)).2
  obtain ⟨k, q1, q2, q3, q4, q5, q6, q7⟩ := hR3
  have HY := Lib.hid hys
  have HT := Lib.hid q2
  have HO := Lib.hid q3
  have hb4 : Below w.heap.size w w3 := two_below hb2 q7 hg2B hw2
  have HK := Lib.hid q1
  clear q1 q2 q3 q6 q7 hp hs hP3 HC hys hb2 hW2
  go_wp2_with fail
  go_quiet (fail)
  go_wp2
  go_ret2
  refine ⟨g2, cap2, k, rfl, ?_, ⟨hb4.os, hb4.tape, hb4.output, hb4.size, hb4.block⟩, by have := HK.out; omega, d', HT.out, HY.out⟩
  have h5 := HO.out
  rw [HY.out] at h5
  exact own_atI h5 rfl

set_option maxRecDepth 100000 in
set_option maxHeartbeats 2000000 in
theorem fallingSwaps_any (v : Value) (xs : List Int) (w : World) (h : Ro w v xs) (hn : xs.length ≤ 17592186044416) :
    Calls Try.prog 13 #[v] w (SwapsMade xs.length (20 * (xs.length + 1) * xs.length) xs ((asc xs).reverse) w) := by
  have h0 := h
  obtain ⟨A, c, b, off, rfl, hnc, hcm, ha, hcell⟩ := h
  obtain ⟨n, hxn⟩ : ∃ n, n = xs.length := ⟨_, rfl⟩
  have hszx : xs.toArray.size = n := by rw [hxn]; simp
  rw [← hxn] at h0 hn hnc ha ⊢
  have HR := Lib.hid h0.src.2
  have HX := Lib.hid hxn
  clear h0 hcell ha hxn
  go_enter Try.func13, Try.ntmps13
  go_wp2_with (at_builtin; refine wpList_app _ rfl (.tmp 5) (.tmp 6) rfl ints_ok w.heap.size w.heap.size 0 0 [] (by rfl) (ownE _ (Nat.le_refl _)) _ n c (xs.map (Value.int .i64)) (by rfl) (HR.out.alloc _) (by unfold maxLen; omega) (by omega) (by simp) n (by omega) _ rfl ?_; intro g2 cap2 w2 hown2 hgrow2 hat2)
  obtain ⟨hg2B, hg2l⟩ := hown2.lt g2 rfl
  have hb1 : Below w.heap.size w w2 := below_app hgrow2 (Nat.le_refl _) ((Below.refl _ _).alloc (Nat.le_refl _) _)
  have hO2 : Own 3 w.heap.size w2 (.slice (some ⟨g2, 0, none⟩) n cap2) xs := by
    unfold Own
    rw [← HX.out]
    exact hown2
  obtain ⟨W2, hW2⟩ : ∃ W2, W2 = w2.alloc (.cells #[.slice (some ⟨g2, 0, none⟩) n cap2, .int .i64 0] 51) := ⟨_, rfl⟩
  have HC0 : Hid (CntAt w.heap.size g2 n cap2 w2.heap.size xs.toArray W2 0 W2 xs.toArray) := by rw [hW2]; exact cnt_start hO2
  have hb2 : Below w.heap.size w W2 := by rw [hW2]; exact hb1.alloc hb1.size _
  have hs2 : W2.heap.size = w2.heap.size + 1 := by rw [hW2]; simp
  have hne2 : w2.heap.size ≠ g2 := by omega
  have hgl2 : g2 < W2.heap.size := by omega
  have hcl2 : w2.heap.size < W2.heap.size := by omega
  have hw2 : w.heap.size ≤ w2.heap.size := hb1.size
  clear hown2 hgrow2 hat2 hO2 hb1
  rw [← hW2]
  refine (reverse_any _ _ _).mono ?_
  rintro e w' ⟨rfl, hw'⟩
  subst hw'
  clear hW2
  obtain ⟨W3, hW3⟩ : ∃ W3, W3 = W2.alloc (.cells #[.iface 49 (.pointer (some ⟨w2.heap.size, 0, none⟩))] 72) := ⟨_, rfl⟩
  have hb3 : Below w.heap.size w W3 := by rw [hW3]; exact hb2.alloc hb2.size _
  have hsz3 : W3.heap.size = W2.heap.size + 1 := by rw [hW3]; simp
  have hc3 : W3.cell? ⟨w2.heap.size + 1, 0, none⟩ = some (.iface 49 (.pointer (some ⟨w2.heap.size, 0, none⟩))) := by rw [hW3, ← hs2]; simp
  have HC3 : Hid (CntAt w.heap.size g2 n cap2 w2.heap.size xs.toArray W3 0 W3 xs.toArray) := by
    obtain ⟨k, q1, q2, q3, q4, q5, q6, q7⟩ := HC0.out.near hgl2 hcl2 ((RowKit.Below.refl _ _).alloc (Nat.le_refl _) (.cells #[.iface 49 (.pointer (some ⟨w2.heap.size, 0, none⟩))] 72))
    rw [hW3]
    exact ⟨k, q1, q2, q3, q4, q5, q6, ⟨rfl, rfl, rfl, Nat.le_refl _, fun _ _ _ _ => rfl⟩⟩
  have HC := Lib.hid (sort_if (rev_rel (rb := w2.heap.size + 1) (d0 := xs.toArray) (cap := cap2) (B0 := w.heap.size) hne2 (by omega) (by omega) (by omega) (by omega) (by omega) hc3 (by omega)) (rev_len (rb := w2.heap.size + 1) (n := n) (d0 := xs.toArray) (cap := cap2) (B0 := w.heap.size) hne2 (by omega) (by omega) (by omega) (by omega) (by omega) hc3) swo_gtInt (by omega) 0 xs.toArray _ HC3.out)
  clear HC0 HC3 hc3 hb2
  go_wp2_with fail
  rw [← hW3]
  refine HC.out.mono ?_
  rintro e w3 ⟨rfl, d', ⟨hp, hs⟩, hR3, hP3⟩
  have hys : d'.toList = (asc xs).reverse := ge_sorted (by rw [hszx]; exact hp) (by rw [hszx]; exact hs)
  have hb2 := hb3
  obtain ⟨k, q1, q2, q3, q4, q5, q6, q7⟩ := hR3
  have HY := Lib.hid hys
  have HT := Lib.hid q2
  have HO := Lib.hid q3
  have hb4 : Below w.heap.size w w3 := two_below hb2 q7 hg2B hw2
  have HK := Lib.hid q1
  clear q1 q2 q3 q6 q7 hp hs hP3 HC hys hb2 hb3 hW3
  go_wp2_with fail
  go_quiet (fail)
  go_wp2
  go_ret2
  refine ⟨g2, cap2, k, rfl, ?_, ⟨hb4.os, hb4.tape, hb4.output, hb4.size, hb4.block⟩, by have := HK.out; omega, d', HT.out, HY.out⟩
  have h5 := HO.out
  rw [HY.out] at h5
  exact own_atI h5 rfl

end Go.Proofs.Ytiioojnoggcnmaa

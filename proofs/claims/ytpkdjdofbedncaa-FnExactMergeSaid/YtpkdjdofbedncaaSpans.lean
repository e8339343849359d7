/-
  What is proved here: contracts of the laws' helpers sameSpans (equal lists), joinedSpans and covers; condition: at most 2^43 - 1 spans in all.
-/
import Derived.Test.YtpkdjdofbedncaaMerge
import Derived.Test.YtpkdjdofbedncaaMergeMore
namespace Go.Proofs.Ytpkdjdofbedncaa
open Go.RowKit
set_option linter.unusedVariables false

theorem merge_any (v : Value) (xs : List (Int × Int)) (w : World) (h : Ros2 w v xs) (hn : xs.length ≤ 8796093022207) :
    Calls Try.prog 18 #[v] w (MadeK 2 enc2 37 (merged xs) w) := (merge_some v xs w h hn).mono fun _ _ h => h.made

set_option maxHeartbeats 1000000 in
theorem sameSpans_yes (v u : Value) (xs ys : List (Int × Int)) (w : World) (h : Ros2 w v xs) (h' : Ros2 w u ys) (e : xs = ys) :
    Calls Try.prog 22 #[v, u] w fun e w' => e = .returned (.bool true) ∧ Below w.heap.size w w' := by
  subst e
  have HR := Lib.hid h
  have HR' := Lib.hid h'
  obtain ⟨A, c, b, off, rfl, hnc, hcm, -, -⟩ := h.shape
  obtain ⟨A', c', b', off', rfl, hnc', hcm', -, -⟩ := h'.shape
  obtain ⟨n, hxn⟩ : ∃ n, n = xs.length := ⟨_, rfl⟩
  rw [← hxn] at hnc hnc' HR HR' ⊢
  have HX := Lib.hid hxn
  clear hxn h h'
  unfold maxLen at hcm hcm'
  go_enter Try.func22, Try.ntmps22
  go_wp2_with fail
  go_loopg [13] n (fun kx s5 wr => ∃ k : Nat, k ≤ n ∧ s5 = .int .i64 k ∧ n - k ≤ kx ∧ Below w.heap.size w wr)
  case atStart => exact ⟨0, Nat.zero_le _, rfl, by omega, Below.refl _ _⟩
  case round =>
    obtain ⟨k, hk, rfl, hkk, hb⟩ := hrel
    by_cases hlt : k < n
    · obtain ⟨p, q, hx⟩ : ∃ p q, xs[k]? = some (p, q) := ⟨_, _, List.getElem?_eq_getElem (by rw [← HX.out]; exact hlt)⟩
      obtain ⟨b1, off1, rfl, hc0, hc1, hbl⟩ := (HR.out.below hb).at hx
      obtain ⟨b2, off2, rfl, hc2, hc3, hbl2⟩ := (HR'.out.below hb).at hx
      clear hx
      have h1 : (0 : Int) ≤ (k : Int) := by omega
      have h2 : (k : Int) < (n : Int) := by omega
      go_wp2_with fail
      go_quiet (fail)
      go_wp2_with fail
      go_roundg (n - (k + 1))
      case measure => omega
      case rel => exact ⟨k + 1, by omega, by go_num, by omega, ⟨hb.os, hb.tape, hb.output, hb.size, hb.block⟩⟩
    · go_wp2_with fail
      go_ret
      exact ⟨rfl, hb⟩

theorem own_roK {E : TypeId} {B : Nat} {w : World} {g n cap : Nat} {xs : List (Int × Int)} (h : w.ownsRow B E 2 (.slice (some ⟨g, 0, none⟩) n cap) n (cellsK enc2 xs)) (hx : xs.length = n) : OwnK 2 enc2 E B w (.slice (some ⟨g, 0, none⟩) n cap) xs := by
  unfold OwnK
  rw [hx]
  exact h

set_option maxHeartbeats 1000000 in
theorem joinedSpans_any (va vb : Value) (xs ys : List (Int × Int)) (w : World) (ha : Ros2 w va xs) (hb : Ros2 w vb ys) (hn : xs.length + ys.length ≤ 8796093022207) :
    Calls Try.prog 23 #[va, vb] w (MadeK 2 enc2 37 (xs ++ ys) w) := by
  have HRA := Lib.hid ha
  have HRB := Lib.hid hb
  obtain ⟨A, c, b, off, rfl, hnc, hcm, -, -⟩ := ha.shape
  obtain ⟨A1, c1, b1, off1, rfl, hnc1, hcm1, -, -⟩ := hb.shape
  obtain ⟨n, hxn⟩ : ∃ n, n = xs.length := ⟨_, rfl⟩
  obtain ⟨m, hym⟩ : ∃ m, m = ys.length := ⟨_, rfl⟩
  rw [← hxn] at HRA ⊢
  rw [← hym] at HRB ⊢
  rw [← hxn, ← hym] at hn
  have HX := Lib.hid hxn
  have HY := Lib.hid hym
  clear ha hb hxn hym hnc hnc1
  unfold maxLen at hcm hcm1
  go_enter Try.func23, Try.ntmps23
  go_wp2_with (at_builtin; first
    | (refine wpList_app _ rfl (.tmp 5) (.tmp 6) rfl spans_ok w.heap.size w.heap.size 0 0 [] (by rfl) (ownE _ (Nat.le_refl _)) _ n c (cellsK enc2 xs) (by rfl) ((RoK.src len_enc2 (by omega) HRA.out).2.alloc _) (by unfold maxLen; omega) (by omega) (by simp) n (by omega) _ rfl ?_; intro g2 cap2 w2 hown2 hgrow2 hat2)
    | (refine wpList_app _ rfl (.tmp 7) (.tmp 8) rfl spans_ok w.heap.size g2 n cap2 _ (by rfl) hown2 _ m c1 (cellsK enc2 ys) (by rfl) ((RoK.src len_enc2 (by omega) HRB.out).2.below (below_app hgrow2 (Nat.le_refl _) ((Below.refl _ _).alloc (Nat.le_refl _) _))) (by unfold maxLen; omega) (by omega) (by have := hgrow2.size; simp at this; omega) (n + m) rfl _ rfl ?_; intro g3 cap3 w3 hown3 hgrow3 hat3))
  obtain ⟨hg2B, hg2l⟩ := hown2.lt g2 rfl
  have hb2 : Below w.heap.size w w2 := below_app hgrow2 (Nat.le_refl _) ((Below.refl _ _).alloc (Nat.le_refl _) _)
  have hb3 : Below w.heap.size w w3 := below_app hgrow3 (by omega) hb2
  rw [List.nil_append, ← cellsK_append] at hown3
  have hoj := own_roK hown3 (by rw [List.length_append, ← HX.out, ← HY.out])
  have HOJ := Lib.hid hoj
  clear hown2 hown3 hgrow2 hgrow3 hat2 hat3 hoj
  go_ret
  exact ⟨_, rfl, HOJ.out, hb3⟩

theorem cnts_take {l : List (Int × Int)} {k : Nat} {p q v : Int} (h : l[k]? = some (p, q)) : cnts (l.take (k + 1)) v = cnts (l.take k) v + (if p ≤ v ∧ v < q then 1 else 0) := by
  unfold cnts
  rw [List.take_add_one, h, List.countP_append]
  simp [List.countP_cons]
theorem cnts_le (l : List (Int × Int)) (v : Int) : cnts l v ≤ l.length := List.countP_le_length

set_option maxHeartbeats 1000000 in
theorem covers_any (va : Value) (xs : List (Int × Int)) (v : Int) (w : World) (ha : Ros2 w va xs) (hn : xs.length ≤ 8796093022207) (c : Nat) (hc : cnts xs v = c) :
    Calls Try.prog 24 #[va, .int .i64 v] w fun e w' => e = .returned (.int .i64 (c : Int)) ∧ Below w.heap.size w w' := by
  have HR := Lib.hid ha
  obtain ⟨A, c0, b, off, rfl, hnc, hcm, -, -⟩ := ha.shape
  obtain ⟨n, hxn⟩ : ∃ n, n = xs.length := ⟨_, rfl⟩
  rw [← hxn] at hn hnc HR ⊢
  have HX := Lib.hid hxn
  have HCC := Lib.hid hc
  clear hxn ha hc
  unfold maxLen at hcm
  go_enter Try.func24, Try.ntmps24
  go_wp2_with fail
  go_loopg [5, 10] n (fun kx s5 s10 wr => ∃ k j : Nat, k ≤ n ∧ s5 = .int .i64 j ∧ s10 = .int .i64 k ∧ n - k ≤ kx ∧ j ≤ k ∧ Below w.heap.size w wr ∧ Hid (j = cnts (xs.take k) v))
  case atStart => exact ⟨0, 0, Nat.zero_le _, rfl, rfl, by omega, Nat.le_refl _, Below.refl _ _, by show 0 = cnts (xs.take 0) v; simp [cnts]⟩
  case round =>
    obtain ⟨k, j, hk, rfl, rfl, hkk, hjk, hb, HJ⟩ := hrel
    by_cases hlt : k < n
    · obtain ⟨p, q, hx⟩ : ∃ p q, xs[k]? = some (p, q) := ⟨_, _, List.getElem?_eq_getElem (by rw [← HX.out]; exact hlt)⟩
      obtain ⟨b1, off1, rfl, hc0, hc1, hbl⟩ := (HR.out.below hb).at hx
      have HST := Lib.hid (cnts_take (v := v) hx)
      clear hx
      by_cases h1 : p ≤ v
      · by_cases h2 : v < q
        · have HQ : Hid (j + 1 = cnts (xs.take (k + 1)) v) := by show j + 1 = _; rw [HST.out, if_pos ⟨h1, h2⟩, HJ.out]
          go_wp2_with fail
          go_roundg (n - (k + 1))
          case measure => omega
          case rel => exact ⟨k + 1, j + 1, by omega, by go_num, by go_num, by omega, by omega, hb.alloc hb.size _, HQ.out⟩
        · have HQ : Hid (j = cnts (xs.take (k + 1)) v) := by show j = _; rw [HST.out, if_neg (by omega), HJ.out]; rfl
          go_wp2_with fail
          go_roundg (n - (k + 1))
          case measure => omega
          case rel => exact ⟨k + 1, j, by omega, rfl, by go_num, by omega, by omega, hb.alloc hb.size _, HQ.out⟩
      · have HQ : Hid (j = cnts (xs.take (k + 1)) v) := by show j = _; rw [HST.out, if_neg (by omega), HJ.out]; rfl
        go_wp2_with fail
        go_roundg (n - (k + 1))
        case measure => omega
        case rel => exact ⟨k + 1, j, by omega, rfl, by go_num, by omega, by omega, hb.alloc hb.size _, HQ.out⟩
    · obtain rfl : k = n := by omega
      have hfin : j = c := by rw [HJ.out, List.take_of_length_le (by rw [← HX.out]; omega), HCC.out]
      subst hfin
      go_wp2_with fail
      go_ret
      exact ⟨rfl, hb⟩

end Go.Proofs.Ytpkdjdofbedncaa

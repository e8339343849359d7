/-
  What is proved here: the walk of the law FnMergeCovers, for lists of at most 2^20 elements; no other condition.
-/
import Derived.Test.YtpkdjdofbedncaaSpans
import Derived.Test.YtpkdjdofbedncaaSame
namespace Go.Proofs.Ytpkdjdofbedncaa
open Go.RowKit
set_option linter.unusedVariables false

theorem two_src (w : World) (p q : Int) (t : TypeId) (b : Nat) (hb : b = w.heap.size) : Src (w.alloc (.cells #[.int .i64 p, .int .i64 q] t)) 1 (some ⟨b, 0, none⟩) 2 [.int .i64 p, .int .i64 q] := by
  subst hb
  exact ⟨rfl, by simp [Value.oneCell'], fun _ => ⟨_, rfl, World.news_of_block (heap_alloc_new w _)⟩⟩
theorem Out.app2 {E : TypeId} {B g0 : Nat} {w4 wr w5 : World} {g k cap g5 cap5 : Nat} {L : List Int} {x y : Int} {o : Obj} (h : Out E B g0 w4 wr g k cap L)
    (hown : w5.ownsRow B E 1 (.slice (some ⟨g5, 0, none⟩) (k + 2) cap5) (k + 2) (L.map (Value.int .i64) ++ [.int .i64 x, .int .i64 y])) (hg : (wr.alloc o).grownBy w5 (some g)) (hat : g5 = g ∨ g5 = (wr.alloc o).heap.size) :
    Out E B g0 w4 w5 g5 (k + 2) cap5 (L ++ [x, y]) := by
  obtain ⟨h1, h2, h3, h4⟩ := h
  have hs := h4.size
  refine ⟨by rw [List.length_append, h1]; rfl, ?_, ?_, ?_⟩
  · unfold Own
    rw [List.length_append, h1, List.map_append]
    exact hown
  · rcases hat with e | e
    · rw [e]; exact h3
    · right; rw [e]; simp; omega
  · have e1 : w4.grownBy (wr.alloc o) (some g0) := h4.trans ⟨rfl, rfl, rfl, by simp, fun k hk _ => Below.heap_alloc _ _ _ hk⟩
    exact e1.andThen hg (fun j hj => by
      injection hj with hj
      subst hj
      rcases h3 with e | e
      · right; rw [e]
      · left; exact e)
theorem cov_min (l : List (Int × Int)) (v : Int) : ((cnts (merged l) v : Nat) : Int) = min ((cnts l v : Nat) : Int) 1 := by have := merge_covers l v; omega

set_option maxRecDepth 100000 in
set_option maxHeartbeats 8000000 in
theorem walk_FnMergeCovers (v0 : Value) (x0 : List (Int × Int)) (a1 : Int) (w : World) (h0 : Ros2 w v0 x0) (f0 : ∀ x ∈ x0, (Lit.int .i64 x.1).wf = true ∧ (Lit.int .i64 x.2).wf = true) (n0 : x0.length ≤ 1048576) (f1 : (Lit.int .i64 a1).wf = true) :
    Calls Try.prog 8 #[v0, .int .i64 a1] w fun e w' => e = .returned (.bool true) ∧ Below w.heap.size w w' := by
  have HWF := Lib.hid f0
  have R_v0 := Lib.hid h0
  clear h0 f0
  clear f1
  obtain ⟨A0, c0, b0, off0, rfl, hnc0, hcm0, -, -⟩ := R_v0.out.shape
  obtain ⟨l0, hl0⟩ : ∃ n, n = x0.length := ⟨_, rfl⟩
  rw [← hl0] at R_v0 n0 hnc0 ⊢
  have HL0 := Lib.hid hl0
  clear hl0
  unfold maxLen at hcm0
  go_enter Try.func8, Try.ntmps8
  go_wp2_with fail
  refine (merge_any _ x0 _ R_v0.out (by rw [← HL0.out]; omega)).mono ?_
  rintro e W1 ⟨va, rfl, o1, b1⟩
  replace R_v0 := Lib.hid (R_v0.out.below b1)
  have bt1 : Below w.heap.size w W1 := b1
  clear b1
  have R_va := Lib.hid o1.ros2
  clear o1
  have HML := Lib.hid (show (merged x0).length ≤ 1048576 by have := merged_len x0; rw [← HL0.out] at this; omega)
  have HXL := Lib.hid (show x0.length ≤ 1048576 by rw [← HL0.out]; exact n0)
  have hbw : Below W1.heap.size W1 (W1.alloc (.cells #[.int .i64 a1] 3)) := (Below.refl _ _).alloc (Nat.le_refl _) _
  have hown0 : (W1.alloc (.cells #[.int .i64 a1] 3)).ownsRow W1.heap.size 3 1 (.slice (some ⟨W1.heap.size, 0, none⟩) 1 1) 1 ([a1].map (Value.int .i64)) := ⟨by simp, .inr ⟨W1.heap.size, 1, #[.int .i64 a1], rfl, Nat.le_refl _, heap_alloc_new W1 _, Nat.le_refl _, by unfold maxLen; omega, by simp, by simp⟩⟩
  have HOW0 := Lib.hid hown0
  clear hown0
  go_wp2_with fail
  go_loopg [6, 17] l0 (fun kx s6 s17 wr => ∃ (j k g cap : Nat) (L : List Int), s6 = .slice (some ⟨g, 0, none⟩) k cap ∧ s17 = .int .i64 j ∧ j ≤ l0 ∧ l0 - j ≤ kx ∧ k ≤ 4 * j + 1 ∧
    Hid (Out 3 W1.heap.size W1.heap.size (W1.alloc (.cells #[.int .i64 a1] 3)) wr g k cap L))
  case atStart => exact ⟨0, 1, W1.heap.size, 1, [a1], rfl, rfl, Nat.zero_le _, by omega, by omega, ⟨rfl, HOW0.out, .inl rfl, World.grownBy.refl _ _⟩⟩
  case round =>
    obtain ⟨j, k, g, cap, L, rfl, rfl, hj, hjk, hkj, HO⟩ := hrel
    obtain ⟨hgB, hgl, hlc, hcap, hsz⟩ := HO.out.lt
    unfold maxLen at hcap
    have hbW : Below W1.heap.size W1 wr := HO.out.belowW hbw (Nat.le_refl _)
    by_cases hlt : j < l0
    · obtain ⟨p, q, hx⟩ : ∃ p q, x0[j]? = some (p, q) := ⟨_, _, List.getElem?_eq_getElem (by rw [← HL0.out]; exact hlt)⟩
      obtain ⟨b, off, rfl, hc0, hc1, hbl⟩ := (R_v0.out.below hbW).at hx
      obtain ⟨wfp, wfq⟩ := HWF.out (p, q) (List.mem_of_getElem? hx)
      have wfp' := wf_bounds wfp
      have wfq' := wf_bounds wfq
      clear hx wfp wfq
      obtain ⟨wp1, wp2⟩ := wfp'
      obtain ⟨wq1, wq2⟩ := wfq'
      have HOA := Lib.hid (HO.out.below ((Below.refl _ _).alloc (Nat.le_refl _) (.cells #[.int .i64 p, .int .i64 q] 37)))
      have hgne : ¬ g = wr.heap.size := by omega
      have hs1 : W1.heap.size ≤ wr.heap.size := hbW.size
      by_cases hp : -4611686018427387904 < p
      · by_cases hq : -4611686018427387904 < q
        · have y1 : IntKind.i64.wrap (p - 1) = p - 1 := IntWalk.i64_in _ (by omega)
          have y2 : IntKind.i64.wrap (q - 1) = q - 1 := IntWalk.i64_in _ (by omega)
          go_wp2_with (at_builtin; first | (refine wpList_app _ rfl (.tmp 21) (.tmp 26) rfl ints_ok W1.heap.size g k cap (L.map (Value.int .i64)) (by rfl) (HOA.out.row.alloc _) _ 2 2 [.int .i64 p, .int .i64 q] (by rfl) (two_src _ _ _ _ _ (by simp)) (by unfold maxLen; omega) (by omega) (by simp; omega) (k + 2) rfl _ rfl ?_; intro g5 cap5 w5 hown5 hgrow5 hat5; have cc0 := hgrow5.cell (a := ⟨wr.heap.size, 0, none⟩) (v := .int .i64 p) (by simp [go_sem]) (fun e => by injection e with e; exact hgne e.symm); have cc1 := hgrow5.cell (a := ⟨wr.heap.size, 1, none⟩) (v := .int .i64 q) (by simp [go_sem]) (fun e => by injection e with e; exact hgne e.symm); have HO5 := Lib.hid (HOA.out.app2 hown5 hgrow5 hat5); have hl5 := HO5.out.lt; clear hown5 hgrow5 hat5) | (refine wpList_app _ rfl (.tmp 36) (.tmp 43) rfl ints_ok W1.heap.size g5 (k + 2) cap5 _ (by rfl) (HO5.out.row.alloc _) _ 2 2 [.int .i64 (p - 1), .int .i64 (q - 1)] (by rfl) (two_src _ _ _ _ _ (by simp)) (by unfold maxLen; omega) (by omega) (by simp; omega) (k + 4) rfl _ rfl ?_; intro g6 cap6 w6 hown6 hgrow6 hat6))
          have HO6 := Lib.hid (HO5.out.app2 hown6 hgrow6 hat6)
          clear hown6 hgrow6 hat6
          go_wp2_with fail
          go_roundg (l0 - (j + 1))
          case measure => omega
          case rel => exact ⟨j + 1, k + 4, g6, cap6, _, rfl, by go_num, by omega, by omega, by omega, HO6.out⟩
        · go_wp2_with (at_builtin; (refine wpList_app _ rfl (.tmp 21) (.tmp 26) rfl ints_ok W1.heap.size g k cap (L.map (Value.int .i64)) (by rfl) (HOA.out.row.alloc _) _ 2 2 [.int .i64 p, .int .i64 q] (by rfl) (two_src _ _ _ _ _ (by simp)) (by unfold maxLen; omega) (by omega) (by simp; omega) (k + 2) rfl _ rfl ?_; intro g5 cap5 w5 hown5 hgrow5 hat5; have cc0 := hgrow5.cell (a := ⟨wr.heap.size, 0, none⟩) (v := .int .i64 p) (by simp [go_sem]) (fun e => by injection e with e; exact hgne e.symm); have cc1 := hgrow5.cell (a := ⟨wr.heap.size, 1, none⟩) (v := .int .i64 q) (by simp [go_sem]) (fun e => by injection e with e; exact hgne e.symm); have HO5 := Lib.hid (HOA.out.app2 hown5 hgrow5 hat5); have hl5 := HO5.out.lt; clear hown5 hgrow5 hat5))
          go_roundg (l0 - (j + 1))
          case measure => omega
          case rel => exact ⟨j + 1, k + 2, g5, cap5, _, rfl, by go_num, by omega, by omega, by omega, HO5.out⟩
      · go_wp2_with (at_builtin; (refine wpList_app _ rfl (.tmp 21) (.tmp 26) rfl ints_ok W1.heap.size g k cap (L.map (Value.int .i64)) (by rfl) (HOA.out.row.alloc _) _ 2 2 [.int .i64 p, .int .i64 q] (by rfl) (two_src _ _ _ _ _ (by simp)) (by unfold maxLen; omega) (by omega) (by simp; omega) (k + 2) rfl _ rfl ?_; intro g5 cap5 w5 hown5 hgrow5 hat5; have cc0 := hgrow5.cell (a := ⟨wr.heap.size, 0, none⟩) (v := .int .i64 p) (by simp [go_sem]) (fun e => by injection e with e; exact hgne e.symm); have cc1 := hgrow5.cell (a := ⟨wr.heap.size, 1, none⟩) (v := .int .i64 q) (by simp [go_sem]) (fun e => by injection e with e; exact hgne e.symm); have HO5 := Lib.hid (HOA.out.app2 hown5 hgrow5 hat5); have hl5 := HO5.out.lt; clear hown5 hgrow5 hat5))
        go_roundg (l0 - (j + 1))
        case measure => omega
        case rel => exact ⟨j + 1, k + 2, g5, cap5, _, rfl, by go_num, by omega, by omega, by omega, HO5.out⟩
    · obtain rfl : j = l0 := by omega
      have R_vp := Lib.hid HO.out.2.1.ro
      replace R_v0 := Lib.hid (R_v0.out.below hbW)
      replace R_va := Lib.hid (R_va.out.below hbW)
      have bt2 : Below w.heap.size w wr := bt1.trans (hbW.mono bt1.size)
      have HKL := Lib.hid HO.out.1
      clear HO hbW bt1 hsz
      obtain ⟨W2, hW2⟩ : ∃ W2, W2 = wr := ⟨_, rfl⟩
      rw [← hW2] at R_vp R_v0 R_va bt2 ⊢
      clear hW2
      go_wp2_with fail
      go_loopg [48] k (fun kx s48 wr => ∃ t : Nat, t ≤ k ∧ s48 = .int .i64 t ∧ k - t ≤ kx ∧ Below W2.heap.size W2 wr)
      case atStart => exact ⟨0, Nat.zero_le _, rfl, by omega, Below.refl _ _⟩
      case round =>
        obtain ⟨t, ht, rfl, htk, hb⟩ := hrel
        by_cases htl : t < k
        · obtain ⟨x, hx⟩ := get_some HKL.out.symm htl
          obtain ⟨b, off, e1, hc, hbl⟩ := (R_vp.out.below hb).at hx
          simp only [Option.some.injEq, Addr.mk.injEq, and_true] at e1
          obtain ⟨rfl, rfl⟩ := e1
          clear hx
          rw [Nat.zero_add] at hc
          obtain ⟨c1, hc1⟩ : ∃ c, cnts (merged x0) x = c := ⟨_, rfl⟩
          obtain ⟨c2, hc2⟩ : ∃ c, cnts x0 x = c := ⟨_, rfl⟩
          have hmin := cov_min x0 x
          rw [hc1, hc2] at hmin
          have HC1 := Lib.hid hc1
          have HC2 := Lib.hid hc2
          have HMIN := Lib.hid hmin
          clear hc1 hc2 hmin
          go_wp2_with fail
          refine (covers_any _ (merged x0) x _ (R_va.out.below hb) (by have := HML.out; omega) c1 HC1.out).mono ?_
          rintro e W3 ⟨rfl, b3⟩
          have hb3 : Below W2.heap.size W2 W3 := hb.trans (b3.mono hb.size)
          clear b3
          go_wp2_with fail
          refine (covers_any _ x0 x _ (R_v0.out.below hb3) (by have := HXL.out; omega) c2 HC2.out).mono ?_
          rintro e W4 ⟨rfl, b4⟩
          have hb4 : Below W2.heap.size W2 W4 := hb3.trans (b4.mono hb3.size)
          clear b4 hb3
          obtain ⟨z1, hz1⟩ : ∃ z : Int, z = (c1 : Int) := ⟨_, rfl⟩
          have hzz := HMIN.out
          rw [← hz1] at hzz ⊢
          have hzz2 : min (c2 : Int) 1 = z1 := hzz.symm
          clear hzz hz1 HMIN
          go_wp2_with fail
          go_roundg (k - (t + 1))
          case measure => omega
          case rel => exact ⟨t + 1, by omega, by go_num, by omega, hb4⟩
        · obtain rfl : t = k := by omega
          go_wp2_with fail
          refine (works_any _).mono ?_
          rintro e W5 ⟨rfl, b5⟩
          go_wp2_with fail
          go_ret
          have hbt := bt2.trans (hb.mono bt2.size)
          exact ⟨rfl, hbt.trans (b5.mono hbt.size)⟩

end Go.Proofs.Ytpkdjdofbedncaa

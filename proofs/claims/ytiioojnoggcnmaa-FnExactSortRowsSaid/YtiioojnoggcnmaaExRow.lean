/-
  What is proved here: contracts of the exact laws' helpers on slices of Row (size, copy, compare, mark, held); condition: at most 2^40 elements. Written by wip/gen/exk.py.
-/
import Derived.Test.YtiioojnoggcnmaaBase
import Derived.Test.YtiioojnoggcnmaaOwnC
import Derived.Laws.Rows
namespace Go.Proofs.Ytiioojnoggcnmaa
open Go.RowKit
set_option linter.unusedVariables false

theorem info_Row : (Try.prog.info? 45).map (fun i => (i.zero, i.size, i.bytes)) = some (some (.agg #[.int .i64 0, .int .i64 0, .int .i64 0]), 3, 24) := by kernel_rfl
theorem ok_Row : ElemOk Try.prog 31 45 3 24 := by
  obtain ⟨i0, hi, hz0, hz1, hz2⟩ := info_parts info_Row
  exact ⟨Try.underlying31, by omega, i0, _, hi, hz0, hz1, hz2, rfl⟩

set_option maxHeartbeats 1000000 in
theorem szRowS_any (v : Value) (xs : List (Int × Int × Int)) (w : World) (h : Ros3 w v xs) (hn : xs.length ≤ 17592186044416) :
    Calls Try.prog 18 #[v, .int .i64 1048576] w fun e w' => e = .returned (.int .i64 (if xs.length ≤ 1048576 then 1048576 - (xs.length : Int) else -1)) ∧ w = w' := by
  obtain ⟨A, c, b, off, rfl, hnc, hcm, -, -⟩ := h.shape
  obtain ⟨n, hxn⟩ : ∃ n, n = xs.length := ⟨_, rfl⟩
  rw [← hxn] at hn hnc ⊢
  clear hxn h
  unfold maxLen at hcm
  by_cases hle : n ≤ 1048576
  · rw [if_pos hle]
    have h1 : ¬ (1048576 : Int) - (n : Int) < 0 := by omega
    go_enter Try.func18, Try.ntmps18
    go_wp2_with fail
    all_goals first
      | (exfalso; omega)
      | (go_ret; exact ⟨rfl, rfl⟩)
  · rw [if_neg hle]
    have h1 : (1048576 : Int) - (n : Int) < 0 := by omega
    go_enter Try.func18, Try.ntmps18
    go_wp2_with fail
    all_goals first
      | (exfalso; omega)
      | (go_ret; exact ⟨rfl, rfl⟩)

set_option maxHeartbeats 1000000 in
theorem toRow_any (p q r : Int) (w : World) :
    Calls Try.prog 41 #[.agg #[.int .i64 p, .int .i64 q, .int .i64 r]] w fun e w' => e = .returned (.agg #[.int .i64 p, .int .i64 q, .int .i64 r]) ∧ Below w.heap.size w w' := by
  go_enter Try.func41, Try.ntmps41
  go_wp2_with fail
  (try simp only [Exit.inBlock, Exit.then])
  refine bodyPost_ret (results_cell_row rfl _ _ (w.heap.size + 1) 45 #[.int .i64 p, .int .i64 q, .int .i64 r] (0, 0) _ rfl ?hg Try.underlying45 rfl (by kernel_rfl)) rfl ?_
  case hg => exact (Below.heap_alloc _ _ _ (by simp)).trans (by simpa using heap_alloc_new (w.alloc (.cells #[.int .i64 p, .int .i64 q, .int .i64 r] 60)) (.cells #[.int .i64 p, .int .i64 q, .int .i64 r] 45))
  exact ⟨rfl, (((Below.refl _ _).alloc (Nat.le_refl _) _).alloc (by simp) _).alloc (by simp; omega) _⟩
theorem eqRow_any (p q r : Int) (w : World) :
    Calls Try.prog 47 #[.agg #[.int .i64 p, .int .i64 q, .int .i64 r], .agg #[.int .i64 p, .int .i64 q, .int .i64 r]] w fun e w' => e = .returned (.bool true) ∧ Below w.heap.size w w' := by
  go_enter Try.func47, Try.ntmps47
  go_wp2_with fail
  go_ret
  exact ⟨rfl, ((Below.refl _ _).alloc (Nat.le_refl _) _).alloc (by simp) _⟩

set_option maxRecDepth 100000 in
set_option maxHeartbeats 2000000 in
theorem toRowS_some (v : Value) (xs : List (Int × Int × Int)) (w : World) (h : Ros3 w v xs) (hn : xs.length ≤ 1099511627776) :
    Calls Try.prog 20 #[v] w (MadeKS 3 enc3 45 xs w) := by
  have HR := Lib.hid h
  obtain ⟨A, c, b0, off0, rfl, hnc, hcm, -, -⟩ := h.shape
  obtain ⟨n, hxn⟩ : ∃ n, n = xs.length := ⟨_, rfl⟩
  rw [← hxn] at hn hnc HR ⊢
  have HX := Lib.hid hxn
  clear hxn h
  unfold maxLen at hcm
  obtain ⟨i0, hi, hz0, hz1, hz2⟩ := info_parts info_Row
  go_enter Try.func20, Try.ntmps20
  go_wp2_with (at_make; refine wpList_make_full _ (by rfl) (.tmp 6) (.tmp 6) _ (by rfl) w.heap.size 45 i0 (.agg #[.int .i64 0, .int .i64 0, .int .i64 0]) 3 Try.underlying31 hi hz0 hz1 .i64 .i64 (n : Int) (n : Int) n (by rfl) (by rfl) rfl rfl (by rw [hz2]; omega) (by unfold maxLen; omega) (Nat.le_refl _) ?_; intro w1 hown hg)
  have hbel : Below w.heap.size w w1 := (Below.refl _ _).grown hg (Nat.le_refl _) (by simp)
  have hown0 : OwnC 3 45 w.heap.size w1 w.heap.size n n (filled enc3 3 xs 0) := by
    unfold OwnC
    rw [filled_zero, List.map_replicate, ← HX.out]
    have e : (madeCells (Value.agg #[.int .i64 0, .int .i64 0, .int .i64 0]).cells (n * 3)).toList = List.replicate (n * 3) (Value.int .i64 0) := made_zeros3 _
    rw [← e]
    exact hown
  have HO0 := Lib.hid hown0
  clear hown hg hown0
  go_wp2_with fail
  go_loopg [4] n (fun kx s4 wr => ∃ k : Nat, k ≤ n ∧ s4 = .int .i64 k ∧ n - k ≤ kx ∧ Below w.heap.size w wr ∧ Hid (OwnC 3 45 w.heap.size wr w.heap.size n n (filled enc3 3 xs k)))
  case atStart => exact ⟨0, Nat.zero_le _, rfl, by omega, hbel, HO0.out⟩
  case round =>
    obtain ⟨k, hk, rfl, hkk, hb, HO⟩ := hrel
    clear HO0 hbel
    by_cases hlt : k < n
    · obtain ⟨p, q, r, hx⟩ : ∃ p q r, xs[k]? = some (p, q, r) := ⟨_, _, _, List.getElem?_eq_getElem (by rw [← HX.out]; exact hlt)⟩
      obtain ⟨b, off, rfl, hc0, hc1, hc2, hbl⟩ := (HR.out.below hb).at hx
      have HXX := Lib.hid hx
      clear hx
      go_wp2_with fail
      refine (toRow_any p q r _).mono ?_
      rintro e w2 ⟨rfl, b2⟩
      have HO2 := Lib.hid (HO.out.below b2)
      have hb2 : Below w.heap.size w w2 := hb.trans (b2.mono hb.size)
      obtain ⟨ca0, fa0⟩ := HO2.out.cell (filled_at len_enc3 (j := 0) (by rw [← HX.out]; exact hlt) (by omega))
      rw [Nat.add_zero] at ca0 fa0
      obtain ⟨ca1, fa1⟩ := HO2.out.cell (filled_at len_enc3 (j := 1) (by rw [← HX.out]; exact hlt) (by omega))
      obtain ⟨ca2, fa2⟩ := HO2.out.cell (filled_at len_enc3 (j := 2) (by rw [← HX.out]; exact hlt) (by omega))
      have HO3 : Hid (OwnC 3 45 w.heap.size (((w2.setCell ⟨w.heap.size, k * 3, none⟩ (.int .i64 p)).setCell ⟨w.heap.size, k * 3 + 1, none⟩ (.int .i64 q)).setCell ⟨w.heap.size, k * 3 + 2, none⟩ (.int .i64 r)) w.heap.size n n (filled enc3 3 xs (k + 1))) := by
        have h1 := (OwnC.set ((OwnC.set ((OwnC.set (HO2.out) (k * 3) p).1) (k * 3 + 1) q).1) (k * 3 + 2) r).1
        rw [filled_step3 HXX.out] at h1
        exact h1
      clear b2 HO
      go_wp2_with fail
      go_roundg (n - (k + 1))
      case measure => omega
      case rel => exact ⟨k + 1, by omega, by go_num, by omega, ((((((hb2).setCell (p := ⟨w.heap.size, k * 3, none⟩) (Nat.le_refl _) _)).setCell (p := ⟨w.heap.size, k * 3 + 1, none⟩) (Nat.le_refl _) _)).setCell (p := ⟨w.heap.size, k * 3 + 2, none⟩) (Nat.le_refl _) _), HO3.out⟩
    · obtain rfl : k = n := by omega
      have HF : Hid (OwnK 3 enc3 45 w.heap.size wr (.slice (some ⟨w.heap.size, 0, none⟩) k k) xs) := by
        have h1 := HO.out
        have e : k = xs.length := HX.out
        rw [show filled enc3 3 xs k = xs.flatMap enc3 by rw [e]; exact filled_end _ _ _] at h1
        exact h1.rows e.symm
      go_wp2_with fail
      go_ret
      exact ⟨_, _, _, rfl, HF.out, hb⟩
theorem toRowS_any (v : Value) (xs : List (Int × Int × Int)) (w : World) (h : Ros3 w v xs) (hn : xs.length ≤ 1099511627776) :
    Calls Try.prog 20 #[v] w (MadeK 3 enc3 45 xs w) := (toRowS_some v xs w h hn).mono fun _ _ h => h.made

set_option maxHeartbeats 2000000 in
theorem eqRowS_any (v u : Value) (xs : List (Int × Int × Int)) (w : World) (h : Ros3 w v xs) (h' : Ros3 w u xs) :
    Calls Try.prog 23 #[v, u] w fun e w' => e = .returned (.bool true) ∧ Below w.heap.size w w' := by
  have HR := Lib.hid h
  have HR' := Lib.hid h'
  obtain ⟨A, c, b0, off0, rfl, hnc, hcm, -, -⟩ := h.shape
  obtain ⟨A', c', b0', off0', rfl, hnc', hcm', -, -⟩ := h'.shape
  obtain ⟨n, hxn⟩ : ∃ n, n = xs.length := ⟨_, rfl⟩
  rw [← hxn] at hnc hnc' HR HR' ⊢
  have HX := Lib.hid hxn
  clear hxn h h'
  unfold maxLen at hcm hcm'
  go_enter Try.func23, Try.ntmps23
  go_wp2_with fail
  go_loopg [5] n (fun kx s5 wr => ∃ k : Nat, k ≤ n ∧ s5 = .int .i64 k ∧ n - k ≤ kx ∧ Below w.heap.size w wr)
  case atStart => exact ⟨0, Nat.zero_le _, rfl, by omega, Below.refl _ _⟩
  case round =>
    obtain ⟨k, hk, rfl, hkk, hb⟩ := hrel
    by_cases hlt : k < n
    · obtain ⟨p, q, r, hx⟩ : ∃ p q r, xs[k]? = some (p, q, r) := ⟨_, _, _, List.getElem?_eq_getElem (by rw [← HX.out]; exact hlt)⟩
      obtain ⟨b, off, rfl, hc0, hc1, hc2, hbl⟩ := (HR.out.below hb).at hx
      obtain ⟨b', off', rfl, hd0, hd1, hd2, hbl'⟩ := (HR'.out.below hb).at hx
      clear hx
      have h1 : (0 : Int) ≤ (k : Int) := by omega
      have h2 : (k : Int) < (n : Int) := by omega
      go_wp2_with fail
      go_region_with (go_at_call 47; refine (eqRow_any p q r _).mono ?_; rintro e W2 ⟨rfl, b2⟩)
      all_goals
        have hb2 : Below w.heap.size w W2 := (Below.drew hb).trans (b2.mono hb.size)
        clear b2
        go_wp2_with fail
        go_roundg (n - (k + 1))
        case measure => omega
        case rel => exact ⟨k + 1, by omega, by go_num, by omega, hb2⟩
    · go_wp2_with fail
      go_ret
      exact ⟨rfl, hb⟩

set_option maxHeartbeats 2000000 in
theorem markRowS_any (q : Int) (B g n cap : Nat) (cs : List Int) (w : World) (h : OwnC 3 45 B w g n cap cs) (hq : -4611686018427387904 ≤ q) (hq2 : q ≤ 4611686018427387904) (hn : n ≤ 1099511627776) :
    Calls Try.prog 25 #[.slice (some ⟨g, 0, none⟩) n cap, .int .i64 q] w fun e w' => e = .returned (.int .i64 (q + (n * 3 : Nat))) ∧ OwnC 3 45 B w' g n cap (marks q (n * 3)) ∧ w.grownBy w' (some g) := by
  obtain ⟨hB, hgl, hnc, hcm, hcl⟩ := h.lt
  unfold maxLen at hcm
  have HCL := Lib.hid hcl
  have ho0 : OwnC 3 45 B w g n cap (marks q (0 * 3) ++ cs.drop (0 * 3)) := by simpa [marks] using h
  have HO0 := Lib.hid ho0
  clear h ho0 hcl
  go_enter Try.func25, Try.ntmps25
  go_wp2_with fail
  go_loopg [1, 5] n (fun kx s1 s5 wr => ∃ (k : Nat) (z : Int), k ≤ n ∧ s5 = .int .i64 k ∧ s1 = .int .i64 z ∧ z = q + (k * 3 : Nat) ∧ n - k ≤ kx ∧ Hid (w.grownBy wr (some g)) ∧ Hid (OwnC 3 45 B wr g n cap (marks q (k * 3) ++ cs.drop (k * 3))))
  case atStart => exact ⟨0, q, Nat.zero_le _, rfl, rfl, by simp, by omega, World.grownBy.refl _ _, HO0.out⟩
  case round =>
    obtain ⟨k, z, hk, rfl, rfl, hz, hkk, HG, HO⟩ := hrel
    clear HO0
    by_cases hlt : k < n
    · have hl : (marks q (k * 3) ++ cs.drop (k * 3)).length = n * 3 := HO.out.lt.2.2.2.2
      have cx : ∀ j, j < 3 → ∃ x, (marks q (k * 3) ++ cs.drop (k * 3))[k * 3 + j]? = some x := fun j hj => ⟨_, List.getElem?_eq_getElem (by omega)⟩
      obtain ⟨x0, hx0⟩ := cx 0 (by omega)
      obtain ⟨ca0, fa0⟩ := HO.out.cell hx0
      rw [Nat.add_zero] at ca0 fa0
      obtain ⟨x1, hx1⟩ := cx 1 (by omega)
      obtain ⟨ca1, fa1⟩ := HO.out.cell hx1
      obtain ⟨x2, hx2⟩ := cx 2 (by omega)
      obtain ⟨ca2, fa2⟩ := HO.out.cell hx2
      have st0 := HO.out.set (k * 3) z
      rw [hz, marks_step q cs (k * 3) (by rw [HCL.out]; omega)] at st0
      rw [← hz] at st0
      have st1 := st0.1.set (k * 3 + 1) (z + 1)
      rw [show z + 1 = q + ((k * 3 + 1 : Nat) : Int) by omega, marks_step q cs (k * 3 + 1) (by rw [HCL.out]; omega)] at st1
      rw [← show z + 1 = q + ((k * 3 + 1 : Nat) : Int) by omega] at st1
      have st2 := st1.1.set (k * 3 + 2) (z + 1 + 1)
      rw [show z + 1 + 1 = q + ((k * 3 + 2 : Nat) : Int) by omega, marks_step q cs (k * 3 + 2) (by rw [HCL.out]; omega)] at st2
      rw [← show z + 1 + 1 = q + ((k * 3 + 2 : Nat) : Int) by omega] at st2
      rw [show k * 3 + 2 + 1 = (k + 1) * 3 by omega] at st2
      have HOZ := Lib.hid st2.1
      have HGZ := Lib.hid ((((HG.out).trans st0.2).trans st1.2).trans st2.2)
      clear cx st0 hx0 st1 hx1 st2 hx2
      have HZ := Lib.hid hz
      have hzb1 : -4611686018427387904 ≤ z := by omega
      have hzb2 : z ≤ 4611686018427387904 + 3298534883328 := by omega
      clear hl hz
      go_wp2_with fail
      go_roundg (n - (k + 1))
      case measure => omega
      case rel => exact ⟨k + 1, _, by omega, by go_num, rfl, by have := HZ.out; omega, by omega, HGZ.out, HOZ.out⟩
    · obtain rfl : k = n := by omega
      have HF : Hid (OwnC 3 45 B wr g k cap (marks q (k * 3))) := by
        have h1 := HO.out
        rw [List.drop_of_length_le (by rw [HCL.out]; exact Nat.le_refl _), List.append_nil] at h1
        exact h1
      have HZ := Lib.hid hz
      clear hz HO
      go_wp2_with fail
      go_ret
      exact ⟨ret_int HZ.out, HF.out, HG.out⟩

set_option maxHeartbeats 2000000 in
theorem heldRowS_any (q : Int) (B g n cap : Nat) (w : World) (h : OwnC 3 45 B w g n cap (marks q (n * 3))) (hq : -4611686018427387904 ≤ q) (hq2 : q ≤ 4611686018427387904) (hn : n ≤ 1099511627776) :
    Calls Try.prog 27 #[.slice (some ⟨g, 0, none⟩) n cap, .int .i64 q] w fun e w' => e = .returned (.int .i64 (q + (n * 3 : Nat))) ∧ w = w' := by
  obtain ⟨hB, hgl, hnc, hcm, hcl⟩ := h.lt
  unfold maxLen at hcm
  have HO := Lib.hid h
  clear h hcl
  go_enter Try.func27, Try.ntmps27
  go_wp2_with fail
  go_loopg [1, 5] n (fun kx s1 s5 wr => ∃ (k : Nat) (z : Int), k ≤ n ∧ s5 = .int .i64 k ∧ s1 = .int .i64 z ∧ z = q + (k * 3 : Nat) ∧ n - k ≤ kx ∧ wr = w)
  case atStart => exact ⟨0, q, Nat.zero_le _, rfl, rfl, by simp, by omega, rfl⟩
  case round =>
    obtain ⟨k, z, hk, rfl, rfl, hz, hkk, rfl⟩ := hrel
    by_cases hlt : k < n
    · have hzb1 : -4611686018427387904 ≤ z := by omega
      have hzb2 : z ≤ 4611686018427387904 + 3298534883328 := by omega
      have ca0 := (HO.out.cell (marks_at q (n * 3) (k * 3 + 0) (by omega))).1
      rw [show q + ((k * 3 + 0 : Nat) : Int) = z + 0 by omega] at ca0
      have ca1 := (HO.out.cell (marks_at q (n * 3) (k * 3 + 1) (by omega))).1
      rw [show q + ((k * 3 + 1 : Nat) : Int) = z + 1 by omega] at ca1
      have ca2 := (HO.out.cell (marks_at q (n * 3) (k * 3 + 2) (by omega))).1
      rw [show q + ((k * 3 + 2 : Nat) : Int) = z + 1 + 1 by omega] at ca2
      rw [Nat.add_zero, Int.add_zero] at ca0
      have HZ := Lib.hid hz
      clear hz
      go_wp2_with fail
      go_roundg (n - (k + 1))
      case measure => omega
      case rel => exact ⟨k + 1, _, by omega, by go_num, rfl, by have := HZ.out; omega, by omega, rfl⟩
    · obtain rfl : k = n := by omega
      have HZ := Lib.hid hz
      clear hz
      go_wp2_with fail
      go_ret
      exact ⟨ret_int HZ.out, rfl⟩

end Go.Proofs.Ytiioojnoggcnmaa

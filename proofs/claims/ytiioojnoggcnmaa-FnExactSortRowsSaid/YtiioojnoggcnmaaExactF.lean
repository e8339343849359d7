/-
  What is proved here: contracts of the four helpers of the exact laws on lists of integers (copy, compare, mark, held); condition: fewer than 2^44 elements.
-/
import Derived.Test.YtiioojnoggcnmaaBase
import Derived.Test.YtiioojnoggcnmaaMem
namespace Go.Proofs.Ytiioojnoggcnmaa
open Go.RowKit
set_option linter.unusedVariables false

set_option maxHeartbeats 1000000 in
theorem toIntS_any (v : Value) (xs : List Int) (w : World) (h : Ro w v xs) (hn : xs.length ≤ 17592186044416) :
    Calls Try.prog 21 #[v] w (Made 3 xs w) := by
  obtain ⟨A, c, b, off, rfl, hnc, hcm, ha, hcell⟩ := h
  obtain ⟨n, hxn⟩ : ∃ n, n = xs.length := ⟨_, rfl⟩
  rw [← hxn] at hn hnc ha ⊢
  have HX := Lib.hid hxn
  have HC := Lib.hid hcell
  have HA := Lib.hid ha
  clear hxn hcell ha
  unfold maxLen at hcm
  obtain ⟨i0, hi, hz0, hz1, hz2⟩ := info_parts int_info
  go_enter Try.func21, Try.ntmps21
  go_wp2_with (at_make; refine wpList_make_full _ (by rfl) (.tmp 6) (.tmp 6) _ (by rfl) w.heap.size 3 i0 (.int .i64 0) 1 Try.underlying22 hi hz0 hz1 .i64 .i64 (n : Int) (n : Int) n (by rfl) (by rfl) rfl rfl (by rw [hz2]; omega) (by unfold maxLen; omega) (Nat.le_refl _) ?_; intro w1 hown hg)
  have hbel : Below w.heap.size w w1 := (Below.refl _ _).grown hg (Nat.le_refl _) (by simp)
  have hown0 : w1.ownsRow w.heap.size 3 1 (.slice (some ⟨w.heap.size, 0, none⟩) n n) n ((xs.take 0).map (Value.int .i64) ++ List.replicate (n - 0) (.int .i64 0)) := by
    have h2 := toList_madeCells_one (.int .i64 0) n
    rw [show (Value.int IntKind.i64 0).cells = #[.int .i64 0] from rfl, Nat.mul_one] at hown
    rw [h2] at hown
    simpa using hown
  clear hown hg
  go_wp2_with fail
  go_loopg [4] n (fun kx s4 wr => ∃ k : Nat, k ≤ n ∧ s4 = .int .i64 k ∧ n - k ≤ kx ∧ Below w.heap.size w wr ∧
    wr.ownsRow w.heap.size 3 1 (.slice (some ⟨w.heap.size, 0, none⟩) n n) n ((xs.take k).map (Value.int .i64) ++ List.replicate (n - k) (.int .i64 0)))
  case atStart => exact ⟨0, Nat.zero_le _, rfl, by omega, hbel, hown0⟩
  case round =>
    obtain ⟨k, hk, rfl, hkk, hb, ho⟩ := hrel
    clear hown0 hbel
    by_cases hlt : k < n
    · obtain ⟨x, hx⟩ : ∃ x, xs[k]? = some x := ⟨xs[k]'(by have := HX.out; omega), List.getElem?_eq_getElem _⟩
      obtain ⟨rfl, hbl⟩ := HA.out (by omega)
      have hc1 : wr.cell? ⟨b, off + k, none⟩ = some (.int .i64 x) := (hb.cell (p := ⟨b, off + k, none⟩) hbl).trans (HC.out k x hx)
      have hc2 : wr.cell? ⟨w.heap.size, k, none⟩ = some (.int .i64 0) := (ho.cellAt k (by omega)).trans (fill_at HX.out.symm hlt)
      have hf2 := ho.frozenAt k
      have ho2 := (ho.stored k (.int .i64 x)).1
      rw [fill_step HX.out.symm hx] at ho2
      have HO := Lib.hid ho2
      clear ho2 ho
      have HXX := Lib.hid hx
      clear hx
      go_wp2_with fail
      go_roundg (n - (k + 1))
      case measure => omega
      case rel => exact ⟨k + 1, by omega, by go_num, by omega, hb.setCell (p := ⟨w.heap.size, k, none⟩) (Nat.le_refl _) _, HO.out⟩
    · obtain rfl : k = n := by omega
      have ho2 : wr.ownsRow w.heap.size 3 1 (.slice (some ⟨w.heap.size, 0, none⟩) k k) xs.length (xs.map (Value.int .i64)) := by
        rw [List.take_of_length_le (by rw [← HX.out]; omega), Nat.sub_self] at ho
        have := HX.out
        simpa [← this] using ho
      have HO := Lib.hid ho2
      clear ho2 ho
      go_wp2_with fail
      go_ret
      exact ⟨_, rfl, HO.out, hb⟩

set_option maxHeartbeats 1000000 in
theorem eqIntS_any (v u : Value) (xs : List Int) (w : World) (h : Ro w v xs) (h' : Ro w u xs) :
    Calls Try.prog 24 #[v, u] w fun e w' => e = .returned (.bool true) ∧ Below w.heap.size w w' := by
  obtain ⟨A, c, b, off, rfl, hnc, hcm, ha, hcell⟩ := h
  obtain ⟨A', c', b', off', rfl, hnc', hcm', ha', hcell'⟩ := h'
  obtain ⟨n, hxn⟩ : ∃ n, n = xs.length := ⟨_, rfl⟩
  rw [← hxn] at hnc ha hnc' ha' ⊢
  have HX := Lib.hid hxn
  have HC := Lib.hid hcell
  have HA := Lib.hid ha
  have HC' := Lib.hid hcell'
  have HA' := Lib.hid ha'
  clear hxn hcell ha hcell' ha'
  unfold maxLen at hcm hcm'
  go_enter Try.func24, Try.ntmps24
  go_wp2_with fail
  go_loopg [5] n (fun kx s5 wr => ∃ k : Nat, k ≤ n ∧ s5 = .int .i64 k ∧ n - k ≤ kx ∧ Below w.heap.size w wr)
  case atStart => exact ⟨0, Nat.zero_le _, rfl, by omega, Below.refl _ _⟩
  case round =>
    obtain ⟨k, hk, rfl, hkk, hb⟩ := hrel
    by_cases hlt : k < n
    · obtain ⟨x, hx⟩ : ∃ x, xs[k]? = some x := ⟨xs[k]'(by have := HX.out; omega), List.getElem?_eq_getElem _⟩
      obtain ⟨rfl, hbl⟩ := HA.out (by omega)
      obtain ⟨rfl, hbl'⟩ := HA'.out (by omega)
      have hc1 : wr.cell? ⟨b, off + k, none⟩ = some (.int .i64 x) := (hb.cell (p := ⟨b, off + k, none⟩) hbl).trans (HC.out k x hx)
      have hc2 : wr.cell? ⟨b', off' + k, none⟩ = some (.int .i64 x) := (hb.cell (p := ⟨b', off' + k, none⟩) hbl').trans (HC'.out k x hx)
      clear hx
      have h1 : (0 : Int) ≤ (k : Int) := by omega
      have h2 : (k : Int) < (n : Int) := by omega
      go_wp2_with fail
      go_quiet (fail)
      go_wp2_with fail
      go_roundg (n - (k + 1))
      case measure => omega
      case rel => exact ⟨k + 1, by omega, by go_num, by omega, ⟨hb.os, hb.tape, hb.output, hb.size, hb.block⟩⟩
    · go_wp2_with fail
      go_ret
      exact ⟨rfl, hb⟩

set_option maxHeartbeats 1000000 in
theorem markIntS_any (v : Value) (q : Int) (B : Nat) (xs : List Int) (w : World) (h : Own 3 B w v xs) (hq : -4611686018427387904 ≤ q) (hq2 : q ≤ 4611686018427387904) (hn : xs.length ≤ 17592186044416) :
    Calls Try.prog 26 #[v, .int .i64 q] w (Wrote 3 B v (marks q xs.length) (q + xs.length) w) := by
  obtain ⟨n, hxn⟩ : ∃ n, n = xs.length := ⟨_, rfl⟩
  rw [← hxn] at hn ⊢
  rcases h.2 with ⟨rfl, hz⟩ | ⟨g, cap, cur, rfl, hB, hg, hnc, hcm, hcs, htk⟩
  · obtain rfl : n = 0 := by omega
    have : xs = [] := List.eq_nil_of_length_eq_zero hz
    subst this
    have H := Lib.hid h
    clear h hxn hz hn
    go_enter Try.func26, Try.ntmps26
    go_wp2_with fail
    go_loopg [1, 5] 0 (fun kx s1 s5 wr => s1 = .int .i64 q ∧ s5 = .int .i64 0 ∧ wr = w)
    case atStart => exact ⟨rfl, rfl, rfl⟩
    case round =>
      obtain ⟨rfl, rfl, rfl⟩ := hrel
      go_wp2_with fail
      go_ret
      exact ⟨ret_int (by simp), H.out, World.grownBy.refl _ _⟩
  · rw [← hxn] at hnc ⊢
    have HX := Lib.hid hxn
    have ho0 : w.ownsRow B 3 1 (.slice (some ⟨g, 0, none⟩) n cap) n ((marks q 0 ++ xs.drop 0).map (Value.int .i64)) := by
      have := h
      unfold Own at this
      rw [← hxn] at this
      simpa [marks] using this
    clear hxn hcs htk hg h
    unfold maxLen at hcm
    go_enter Try.func26, Try.ntmps26
    go_wp2_with fail
    go_loopg [1, 5] n (fun kx s1 s5 wr => ∃ k : Nat, k ≤ n ∧ s5 = .int .i64 k ∧ s1 = .int .i64 (q + k) ∧ n - k ≤ kx ∧ w.grownBy wr (some g) ∧
      wr.ownsRow B 3 1 (.slice (some ⟨g, 0, none⟩) n cap) n ((marks q k ++ xs.drop k).map (Value.int .i64)))
    case atStart => exact ⟨0, Nat.zero_le _, rfl, by simp, by omega, World.grownBy.refl _ _, ho0⟩
    case round =>
      obtain ⟨k, hk, rfl, rfl, hkk, hgr, ho⟩ := hrel
      clear ho0
      by_cases hlt : k < n
      · obtain ⟨x, hx⟩ : ∃ x, ((marks q k ++ xs.drop k).map (Value.int .i64))[k]? = some x := ⟨_, List.getElem?_eq_getElem (by simp [marks_len]; have := HX.out; omega)⟩
        have hc2 : wr.cell? ⟨g, k, none⟩ = some x := (ho.cellAt k (by omega)).trans hx
        have hf2 := ho.frozenAt k
        have ho2 := (ho.stored k (.int .i64 (q + k))).1
        have hg2 := (ho.stored k (.int .i64 (q + k))).2
        rw [← List.map_set, marks_step q xs k (by have := HX.out; omega)] at ho2
        have HO := Lib.hid ho2
        have HG := Lib.hid (hgr.trans hg2)
        clear ho2 ho hx hg2
        go_wp2_with fail
        go_roundg (n - (k + 1))
        case measure => omega
        case rel => exact ⟨k + 1, by omega, by go_num, by go_num, by omega, HG.out, HO.out⟩
      · obtain rfl : k = n := by omega
        have ho2 : Own 3 B wr (.slice (some ⟨g, 0, none⟩) k cap) (marks q k) := by
          unfold Own
          rw [marks_len]
          rw [List.drop_of_length_le (by rw [← HX.out]; omega), List.append_nil] at ho
          exact ho
        have HO := Lib.hid ho2
        clear ho2 ho
        go_wp2_with fail
        go_ret
        exact ⟨rfl, HO.out, hgr⟩

end Go.Proofs.Ytiioojnoggcnmaa

/-
  What is proved here: the contract of the laws' helper orders (orders of one kind with some numbers); condition: at most 2^42 numbers.
-/
import Derived.Test.YtpkdjdofbedncaaOutK
namespace Go.Proofs.Ytpkdjdofbedncaa
open Go.RowKit
set_option linter.unusedVariables false

theorem order_info : (Try.prog.info? 43).map (fun i => (i.zero, i.size, i.bytes)) = some (some (.agg #[.int .i64 0, .int .i64 0]), 2, 16) := by kernel_rfl
theorem orders_ok : ElemOk Try.prog 41 43 2 16 := by
  obtain ⟨i0, hi, hz0, hz1, hz2⟩ := info_parts order_info
  exact ⟨Try.underlying41, by omega, i0, _, hi, hz0, hz1, hz2, rfl⟩
theorem map_takeP {α : Type} {l : List Int} {f : Int → α} {j : Nat} {x : Int} (h : l[j]? = some x) : (l.take (j + 1)).map f = (l.take j).map f ++ [f x] := by
  rw [List.take_add_one, h, List.map_append]
  rfl

set_option maxHeartbeats 1000000 in
theorem orders_some (op : Int) (va : Value) (xs : List Int) (w : World) (ha : Ro w va xs) (hn : xs.length ≤ 4398046511104) :
    Calls Try.prog 27 #[.int .i64 op, va] w (MadeKS 2 enc2 43 (xs.map fun v => (op, v)) w) := by
  obtain ⟨A, c, b, off, rfl, hnc, hcm, ha, hcell⟩ := ha
  obtain ⟨n, hxn⟩ : ∃ n, n = xs.length := ⟨_, rfl⟩
  rw [← hxn] at hn hnc ha ⊢
  have HX := Lib.hid hxn
  have HC := Lib.hid hcell
  have HA := Lib.hid ha
  clear hcell ha hxn
  unfold maxLen at hcm
  have hbw : Below w.heap.size w (w.alloc (.cells #[] 43)) := (Below.refl _ _).alloc (Nat.le_refl _) _
  go_enter Try.func27, Try.ntmps27
  go_wp2_with fail
  go_loopg [5, 11] n (fun kx s3 s12 wr => ∃ (j k g cap : Nat) (L : List (Int × Int)), s3 = .slice (some ⟨g, 0, none⟩) k cap ∧ s12 = .int .i64 j ∧ j ≤ n ∧ n - j ≤ kx ∧ k ≤ j ∧
    Hid (L = (xs.take j).map (fun v => (op, v))) ∧ Hid (OutK 2 enc2 43 w.heap.size w.heap.size (w.alloc (.cells #[] 43)) wr g k cap L))
  case atStart => exact ⟨0, 0, w.heap.size, 0, [], rfl, rfl, Nat.zero_le _, by omega, Nat.le_refl _, rfl, OutK.start (ownE (e := 43) (size := 2) w (Nat.le_refl _))⟩
  case round =>
    obtain ⟨j, k, g, cap, L, rfl, rfl, hj, hjk, hkj, HL, HO⟩ := hrel
    obtain ⟨hgB, hgl, hlc, hcap, hsz⟩ := HO.out.lt
    unfold maxLen at hcap
    by_cases hlt : j < n
    · obtain ⟨x, hx⟩ : ∃ x, xs[j]? = some x := ⟨xs[j]'(by rw [← HX.out]; exact hlt), List.getElem?_eq_getElem _⟩
      obtain ⟨rfl, hbl⟩ := HA.out (by omega)
      have hc : wr.cell? ⟨b, off + j, none⟩ = some (.int .i64 x) := ((HO.out.belowW hbw (Nat.le_refl _)).cell (p := ⟨b, off + j, none⟩) hbl).trans (HC.out j x hx)
      have HST := Lib.hid (map_takeP (f := fun v => (op, v)) hx)
      clear hx
      go_wp2_with (at_builtin; refine wpList_app _ rfl (.tmp 15) (.tmp 19) rfl orders_ok w.heap.size g k cap (cellsK enc2 L) (by rfl) (HO.out.row.alloc _) _ 1 1 [.int .i64 op, .int .i64 x] (by rfl) (Src.new _ #[.int .i64 op, .int .i64 x] _ 2 rfl (by simp [Value.oneCell'])) (by unfold maxLen; omega) (by omega) (by simp; omega) (k + 1) rfl _ rfl ?_; intro g5 cap5 w5 hown5 hgrow5 hat5)
      have HO5 := Lib.hid (HO.out.app (x := (op, x)) hown5 hgrow5 hat5)
      clear hown5 hgrow5 hat5
      go_wp2_with fail
      go_roundg (n - (j + 1))
      case measure => omega
      case rel => exact ⟨j + 1, k + 1, g5, cap5, L ++ [(op, x)], rfl, by go_num, by omega, by omega, by omega, (by show L ++ [(op, x)] = _; rw [HST.out, ← HL.out]), HO5.out⟩
    · obtain rfl : j = n := by omega
      have hfin : L = xs.map (fun v => (op, v)) := by
        rw [HL.out, List.take_of_length_le (by rw [← HX.out]; exact Nat.le_refl _)]
      have HF := Lib.hid hfin
      clear hfin
      go_wp2_with fail
      go_ret
      exact HO.out.madeS hbw (Nat.le_refl _) HF.out
theorem orders_any (op : Int) (va : Value) (xs : List Int) (w : World) (ha : Ro w va xs) (hn : xs.length ≤ 4398046511104) :
    Calls Try.prog 27 #[.int .i64 op, va] w (MadeK 2 enc2 43 (xs.map fun v => (op, v)) w) := (orders_some op va xs w ha hn).mono fun _ _ h => h.made

end Go.Proofs.Ytpkdjdofbedncaa

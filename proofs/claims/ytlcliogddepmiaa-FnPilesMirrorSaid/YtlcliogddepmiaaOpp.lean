/-
  What is proved here: the contract of the laws' helper opposite (each number v becomes -1 - v); condition: at most 2^44 elements.
-/
import Derived.Test.YtlcliogddepmiaaWf
import Derived.Test.YtlcliogddepmiaaSetPlain
namespace Go.Proofs.Ytlcliogddepmiaa
open Go.RowKit
set_option linter.unusedVariables false

theorem bits_not (x : Int) (h1 : -9223372036854775808 ≤ x) (h2 : x ≤ 9223372036854775807) : bits BinOp.xor IntKind.i64 (-1) x = -1 - x := by
  show IntKind.i64.wrap ((BitVec.ofInt 64 (-1) ^^^ BitVec.ofInt 64 x).toNat : Int) = _
  have e : BitVec.ofInt 64 (-1) = BitVec.allOnes 64 := by decide
  rw [e, BitVec.allOnes_xor, BitVec.toNat_not, BitVec.toNat_ofInt, IntKind.wrap_i64]
  have h3 : 0 ≤ x % ((2 ^ 64 : Nat) : Int) := Int.emod_nonneg _ (by decide)
  have h4 : x % ((2 ^ 64 : Nat) : Int) < ((2 ^ 64 : Nat) : Int) := Int.emod_lt_of_pos _ (by decide)
  have h5 := Int.emod_add_mul_ediv x ((2 ^ 64 : Nat) : Int)
  simp only [show ((2 ^ 64 : Nat) : Int) = 18446744073709551616 from rfl, show (2 ^ 64 : Nat) = 18446744073709551616 from rfl] at *
  omega

set_option maxHeartbeats 1000000 in
theorem opposite_any (va : Value) (xs : List Int) (w : World) (ha : Ro w va xs) (hwf : ∀ x ∈ xs, (Lit.int .i64 x).wf = true) (hn : xs.length ≤ 17592186044416) :
    Calls Try.prog 26 #[va] w (Made 3 (opp xs) w) := by
  obtain ⟨A, c, b, off, rfl, hnc, hcm, ha, hcell⟩ := ha
  obtain ⟨n, hxn⟩ : ∃ n, n = xs.length := ⟨_, rfl⟩
  rw [← hxn] at hn hnc ha ⊢
  have HX := Lib.hid hxn
  have HC := Lib.hid hcell
  have HA := Lib.hid ha
  have HWF := Lib.hid hwf
  clear hcell ha hxn hwf
  unfold maxLen at hcm
  have hbw : Below w.heap.size w (w.alloc (.cells #[] 3)) := (Below.refl _ _).alloc (Nat.le_refl _) _
  go_enter Try.func26, Try.ntmps26
  go_wp2_with fail
  go_loopg [3, 9] n (fun kx s3 s12 wr => ∃ (j k g cap : Nat) (L : List Int), s3 = .slice (some ⟨g, 0, none⟩) k cap ∧ s12 = .int .i64 j ∧ j ≤ n ∧ n - j ≤ kx ∧ k ≤ j ∧
    Hid (L = (xs.take j).map (fun v => -1 - v)) ∧ Hid (Out 3 w.heap.size w.heap.size (w.alloc (.cells #[] 3)) wr g k cap L))
  case atStart => exact ⟨0, 0, w.heap.size, 0, [], rfl, rfl, Nat.zero_le _, by omega, Nat.le_refl _, rfl, Out.start (ownE (e := 3) (size := 1) w (Nat.le_refl _))⟩
  case round =>
    obtain ⟨j, k, g, cap, L, rfl, rfl, hj, hjk, hkj, HL, HO⟩ := hrel
    obtain ⟨hgB, hgl, hlc, hcap, hsz⟩ := HO.out.lt
    unfold maxLen at hcap
    by_cases hlt : j < n
    · obtain ⟨x, hx⟩ : ∃ x, xs[j]? = some x := ⟨xs[j]'(by rw [← HX.out]; exact hlt), List.getElem?_eq_getElem _⟩
      obtain ⟨rfl, hbl⟩ := HA.out (by omega)
      have hc : wr.cell? ⟨b, off + j, none⟩ = some (.int .i64 x) := ((HO.out.belowW hbw (Nat.le_refl _)).cell (p := ⟨b, off + j, none⟩) hbl).trans (HC.out j x hx)
      have HST := Lib.hid (map_take (f := fun v => -1 - v) hx)
      have hb64 := wf_bounds (HWF.out x (List.mem_of_getElem? hx))
      obtain ⟨q1, q2⟩ := hb64
      clear hx
      go_wp2_with (at_builtin; refine wpList_app _ rfl (.tmp 13) (.tmp 16) rfl ints_ok w.heap.size g k cap (L.map (Value.int .i64)) (by rfl) (HO.out.row.alloc _) _ 1 1 _ (by rfl) (Src.one _ _ _) (by unfold maxLen; omega) (by omega) (by simp; omega) (k + 1) rfl _ rfl ?_; intro g5 cap5 w5 hown5 hgrow5 hat5)
      rw [show (if IntKind.i64.signed = true then (-1 : Int) else 9223372036854775807) = -1 from rfl, bits_not x q1 q2] at hown5
      have HO5 := Lib.hid (HO.out.app hown5 hgrow5 hat5)
      clear hown5 hgrow5 hat5
      go_wp2_with fail
      go_roundg (n - (j + 1))
      case measure => omega
      case rel => exact ⟨j + 1, k + 1, g5, cap5, L ++ [-1 - x], rfl, by go_num, by omega, by omega, by omega, (by show L ++ [-1 - x] = _; rw [HST.out, ← HL.out]), HO5.out⟩
    · obtain rfl : j = n := by omega
      have hfin : L = opp xs := by
        rw [HL.out, List.take_of_length_le (by rw [← HX.out]; exact Nat.le_refl _)]
        rfl
      have HF := Lib.hid hfin
      clear hfin
      go_wp2_with fail
      go_ret
      exact HO.out.made hbw (Nat.le_refl _) HF.out

end Go.Proofs.Ytlcliogddepmiaa

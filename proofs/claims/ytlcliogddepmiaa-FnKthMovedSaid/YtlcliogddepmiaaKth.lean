/-
  What is proved here: contracts of small, Kth of the thin package and of Kth's function value; condition: at most 2^44 elements.
-/
import Derived.Test.YtlcliogddepmiaaOwn
import Derived.Test.YtlcliogddepmiaaAscPlain
namespace Go.Proofs.Ytlcliogddepmiaa
open Go.RowKit
set_option linter.unusedVariables false

/-- The remainder by a million, with the sign of the number. -/
def sml (v : Int) : Int := v.tmod 1000000
theorem sml_bounds (v : Int) : -999999 ≤ sml v ∧ sml v ≤ 999999 := by
  have h := tmod_bounds v 1000000 (by omega)
  unfold sml
  omega

set_option maxHeartbeats 400000 in
theorem small_any (v : Int) (w : World) : Calls Try.prog 38 #[.int .i64 v] w fun e w' => e = .returned (.int .i64 (sml v)) ∧ w = w' := by
  have hb := sml_bounds v
  have h1 := hb.1; have h2 := hb.2
  unfold sml at *
  go_enter Try.func38, Try.ntmps38
  go_wp2
  go_ret
  exact ⟨rfl, rfl⟩

/-- How many remainders are at most d - 999999. -/
def cnt (xs : List Int) (d : Int) : Nat := xs.countP (fun v => decide (sml v ≤ d - 999999))
theorem cnt_take {xs : List Int} {j : Nat} {v d : Int} (h : xs[j]? = some v) : cnt (xs.take (j + 1)) d = cnt (xs.take j) d + (if sml v ≤ d - 999999 then 1 else 0) := by
  unfold cnt
  rw [List.take_add_one, h, List.countP_append]
  simp [List.countP_cons]
theorem cnt_le (xs : List Int) (d : Int) (j : Nat) : cnt (xs.take j) d ≤ j := by
  have h1 : cnt (xs.take j) d ≤ (xs.take j).length := List.countP_le_length
  have h2 : (xs.take j).length ≤ j := List.length_take_le _ _
  omega

theorem enters_kth1 : ∀ args w, (callFunc 37 args).run Try.prog w = .ok (.enter 37 args) w := enters_of Try.func37 (by kernel_rfl) rfl

set_option maxHeartbeats 1000000 in
theorem kth1_any (W : World) (bx bk d k n c b off : Nat) (A : Option Addr) (xs : List Int) (hn : n = xs.length) (hnm : n ≤ 17592186044416) (hd : d < 1999998) (hk : k ≤ 17592186044416)
    (ha : 0 < n → A = some ⟨b, off, none⟩) (hcell : ∀ j x, xs[j]? = some x → W.cell? ⟨b, off + j, none⟩ = some (.int .i64 x))
    (hx : W.cell? ⟨bx, 0, none⟩ = some (.slice A n c)) (hck : W.cell? ⟨bk, 0, none⟩ = some (.int .i64 k)) :
    Calls Try.prog 37 #[.int .i64 d, .pointer (some ⟨bx, 0, none⟩), .pointer (some ⟨bk, 0, none⟩)] W fun e w' => e = .returned (.bool (decide (k < cnt xs d))) ∧ W = w' := by
  have HX := Lib.hid hn
  have HC := Lib.hid hcell
  have HA := Lib.hid ha
  clear hn hcell ha
  go_enter Try.func37, Try.ntmps37
  go_wp2_with fail
  go_loopg [5, 10] n (fun kx s5 s10 wr => ∃ j q : Nat, j ≤ n ∧ s10 = .int .i64 j ∧ s5 = .int .i64 q ∧ n - j ≤ kx ∧ q ≤ j ∧ wr = W ∧ Hid (q = cnt (xs.take j) d))
  case atStart => exact ⟨0, 0, Nat.zero_le _, rfl, rfl, by omega, by omega, rfl, by show 0 = cnt (xs.take 0) d; simp [cnt]⟩
  case round =>
    obtain ⟨j, q, hj, rfl, rfl, hjk, hq, rfl, HQ⟩ := hrel
    by_cases hlt : j < n
    · obtain ⟨x, hxj⟩ : ∃ x, xs[j]? = some x := ⟨xs[j]'(by have := HX.out; omega), List.getElem?_eq_getElem _⟩
      obtain rfl := HA.out (by omega)
      have hc := HC.out j x hxj
      have hs := sml_bounds x
      have hs1 := hs.1; have hs2 := hs.2
      have HS := Lib.hid (cnt_take (d := d) hxj)
      clear hxj hs
      go_wp2_with fail
      refine (small_any _ _).mono ?_
      rintro e w' ⟨rfl, rfl⟩
      generalize hsx : sml x = s at hs1 hs2 ⊢
      have HSX := Lib.hid hsx
      clear hsx
      by_cases hle : s ≤ (d : Int) - 999999
      · go_wp2_with fail
        go_roundg (n - (j + 1))
        case measure => omega
        case rel => exact ⟨j + 1, q + 1, by omega, by go_num, by go_num, by omega, by omega, rfl, by show q + 1 = _; rw [HS.out, HSX.out, if_pos hle, HQ.out]⟩
      · have hle2 : ¬ s ≤ (d : Int) - 999999 := hle
        have HLE := Lib.hid hle2
        clear hle2
        go_wp2_with fail
        go_roundg (n - (j + 1))
        case measure => omega
        case rel => exact ⟨j + 1, q, by omega, by go_num, by go_num, by omega, by omega, rfl, by show q = _; rw [HS.out, HSX.out, if_neg (by have := HLE.out; omega), HQ.out]; rfl⟩
    · obtain rfl : j = n := by omega
      have hq2 := HQ.out
      rw [List.take_of_length_le (by rw [← HX.out]; omega)] at hq2
      have HQ2 := Lib.hid hq2
      clear hq2 HQ
      go_wp2_with fail
      go_ret
      exact ⟨by rw [← HQ2.out]; simp, rfl⟩

/-- The number at the index k of the ascending list of the remainders. -/
def kthOf (xs : List Int) (k : Nat) : Int := (asc (xs.map sml)).getD k 0

theorem cnt_asc (xs : List Int) (d : Int) : cnt xs d = (asc (xs.map sml)).countP (fun y => decide (y ≤ d - 999999)) := by
  rw [(asc_perm _).countP_eq, List.countP_map]
  rfl

theorem kth_found {xs : List Int} {k i : Nat} (hk : k < xs.length) (hi : i ≤ 1999998) (h1 : ∀ t, t < i → decide (k < cnt xs (t : Nat)) = false) (h2 : ∀ t, i ≤ t → t < 1999998 → decide (k < cnt xs (t : Nat)) = true) :
    (i : Int) - 999999 = kthOf xs k := by
  have hlen : (asc (xs.map sml)).length = xs.length := by rw [asc_len, List.length_map]
  have hget : (asc (xs.map sml))[k]? = some (kthOf xs k) := by unfold kthOf; rw [List.getD_eq_getElem?_getD, List.getElem?_eq_getElem (by omega)]; rfl
  have hb : -999999 ≤ kthOf xs k ∧ kthOf xs k ≤ 999999 := by
    have hm : kthOf xs k ∈ xs.map sml := (asc_perm _).mem_iff.1 (List.mem_of_getElem? hget)
    obtain ⟨v, _, hv⟩ := List.mem_map.1 hm
    rw [← hv]
    exact sml_bounds v
  have hiff : ∀ t : Nat, k < cnt xs t ↔ kthOf xs k ≤ (t : Int) - 999999 := fun t => by rw [cnt_asc]; exact count_gt (asc_asc _) hget _
  rcases Int.lt_trichotomy ((i : Int) - 999999) (kthOf xs k) with h | h | h
  · exfalso
    have h3 := h2 i (Nat.le_refl _) (by omega)
    have h4 := (hiff i).1 (by simpa using h3)
    omega
  · exact h
  · exfalso
    have h3 := h1 (i - 1) (by omega)
    have h4 := (hiff (i - 1)).2 (by omega)
    simp at h3
    omega

theorem kth_mono {xs : List Int} {k a b : Nat} (hab : a ≤ b) (h : decide (k < cnt xs (a : Nat)) = true) : decide (k < cnt xs (b : Nat)) = true := by
  have : cnt xs (a : Nat) ≤ cnt xs (b : Nat) := by
    unfold cnt
    exact List.countP_mono_left (fun x _ hx => by simp at hx ⊢; omega)
  simp at h ⊢
  omega

set_option maxHeartbeats 1000000 in
theorem kth_any (v : Value) (xs : List Int) (k : Int) (w : World) (h : Ro w v xs) (hn : xs.length ≤ 17592186044416) :
    Calls Try.prog 28 #[v, .int .i64 k] w fun e w' => e = .returned (.int .i64 (if xs.length = 0 then 0 else kthOf xs (k % (xs.length : Int)).toNat)) ∧ Below w.heap.size w w' := by
  obtain ⟨A, c, b, off, rfl, hnc, hcm, ha, hcell⟩ := h
  obtain ⟨n, hxn⟩ : ∃ n, n = xs.length := ⟨_, rfl⟩
  rw [← hxn] at hn hnc ha ⊢
  have HX := Lib.hid hxn
  have HC := Lib.hid hcell
  have HA := Lib.hid ha
  clear hxn hcell ha
  unfold maxLen at hcm
  by_cases h0 : n = 0
  · subst h0
    rw [if_pos rfl]
    go_enter Try.func28, Try.ntmps28
    go_wp2_with fail
    go_ret
    exact ⟨rfl, ((Below.refl _ _).alloc (Nat.le_refl _) _).alloc (by simp) _⟩
  · rw [if_neg h0]
    have hp : 1 ≤ n := by omega
    have hne : ((n : Int) == 0) = false := by simp; omega
    clear h0
    obtain ⟨q, hq⟩ := Int.eq_ofNat_of_zero_le (show 0 ≤ k % (n : Int) from Int.emod_nonneg _ (by omega))
    have hqn : q < n := by have := Int.emod_lt_of_pos k (show (0 : Int) < (n : Int) by omega); omega
    have HQ := Lib.hid hq
    rw [hq, Int.toNat_natCast]
    clear hq
    obtain ⟨hA, hbl⟩ := HA.out (by omega)
    have HAA := Lib.hid hA
    clear hA
    go_enter Try.func28, Try.ntmps28
    go_wp2_with fail
    refine (at_any _ _ _ (by omega) (by omega)).mono ?_
    rintro o w' ⟨rfl, rfl⟩
    rw [HQ.out]
    go_wp2_with fail
    refine (search_at _ _ _ 1999998 (fun d => decide (q < cnt xs (d : Nat))) _ rfl enters_kth1 (by omega) ?hf (fun a b hab _ h => kth_mono hab h)).mono ?_
    case hf =>
      intro W i hb hi
      have c1 : W.cell? ⟨w.heap.size, 0, none⟩ = some (.slice A n c) := (hb.cell (p := ⟨w.heap.size, 0, none⟩) (by simp; omega)).trans (by simp [go_sem])
      have c2 : W.cell? ⟨w.heap.size + 1, 0, none⟩ = some (.int .i64 (q : Int)) := (hb.cell (p := ⟨w.heap.size + 1, 0, none⟩) (by simp)).trans (by simp [go_sem])
      have hbw : ∀ p : Addr, p.block < w.heap.size → W.cell? p = w.cell? p := fun p hp => (hb.cell (p := p) (by simp; omega)).trans (by rw [World.cell?_alloc_lt _ _ _ (by simp; omega), World.cell?_alloc_lt _ _ _ (by omega)])
      refine (kth1_any W _ _ i q n c b off A xs HX.out (by omega) hi (by omega) (fun _ => HAA.out) (fun j x hx => (hbw _ hbl).trans (HC.out j x hx)) c1 c2).mono ?_
      rintro o w' ⟨rfl, rfl⟩
      exact ⟨rfl, hb⟩
    rintro o w' ⟨i, rfl, hi, h1, h2, hb⟩
    have HF := Lib.hid (kth_found (xs := xs) (k := q) (by rw [← HX.out]; exact hqn) hi h1 h2)
    clear h1 h2
    go_wp2_with fail
    go_ret
    exact ⟨ret_int HF.out, (((Below.refl _ _).alloc (Nat.le_refl _) _).alloc (by simp) _).trans (hb.mono (by simp; omega))⟩

end Go.Proofs.Ytlcliogddepmiaa

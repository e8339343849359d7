/-
  What is proved here: contracts of Inversions (both packages): they return the number of pairs in the wrong order; the count as a word of 64 bits wraps around; condition: at most 2^44 elements.
-/
import Derived.Test.YtiioojnoggcnmaaOwn
import Derived.Test.YtiioojnoggcnmaaApp
import Derived.Test.YtiioojnoggcnmaaPlain
import Derived.Test.YtiioojnoggcnmaaIns
namespace Go.Proofs.Ytiioojnoggcnmaa
open Go.RowKit
set_option linter.unusedVariables false

theorem enters_inv1 : ∀ args w, (callFunc 49 args).run Try.prog w = .ok (.enter 49 args) w := enters_of Try.func49 (by kernel_rfl) rfl

set_option maxHeartbeats 1000000 in
theorem inv1_any (W : World) (bl bv g n cap k : Nat) (x y : Int) (hk : k < n) (hbl : W.cell? ⟨bl, 0, none⟩ = some (.slice (some ⟨g, 0, none⟩) n cap)) (hv : W.cell? ⟨bv, 0, none⟩ = some (.int .i64 x))
    (hc : W.cell? ⟨g, k, none⟩ = some (.int .i64 y)) :
    Calls Try.prog 49 #[.int .i64 k, .pointer (some ⟨bl, 0, none⟩), .pointer (some ⟨bv, 0, none⟩)] W fun e w' => e = .returned (.bool (decide (x < y))) ∧ Below W.heap.size W w' := by
  have h1 : (0 : Int) ≤ (k : Int) := by omega
  have h2 : (k : Int) < (n : Int) := by omega
  go_enter Try.func49, Try.ntmps49
  go_wp2_with fail
  go_quiet (fail)
  go_wp2_with fail
  go_ret
  exact ⟨rfl, below_drewN_self _ _⟩

theorem keepS {w1 w' : World} {a b : Addr} {u v : Value} (h1 : w1.cell? a = some u) (h2 : w1.cell? b = some v) (h3 : w1.frozen? a = false) (hb : Below w1.heap.size w1 w') :
    w'.cell? a = some u ∧ w'.cell? b = some v ∧ w'.frozen? a = false ∧ Below w1.heap.size w1 w' :=
  ⟨(hb.cell (World.block_lt_of_cell? _ _ h1)).trans h1, (hb.cell (World.block_lt_of_cell? _ _ h2)).trans h2, (hb.frozen (World.block_lt_of_cell? _ _ h1)).trans h3, hb⟩

/-- What the loop holds: the box of the list, the list's own row, sorted and a permutation of what came so far; the count. -/
def InvState (T E : TypeId) (B bl g cap : Nat) (xs L : List Int) (k cnt : Nat) (wr : World) : Prop :=
  wr.heap[bl]? = some (.cells #[.slice (some ⟨g, 0, none⟩) L.length cap] T (0, 0)) ∧ Own E B wr (.slice (some ⟨g, 0, none⟩) L.length cap) L ∧ Asc L ∧ L.Perm (xs.take k) ∧ cnt = inv (xs.take k)

theorem inv_round {T E : TypeId} {B bl g cap k cnt i m n : Nat} {xs L : List Int} {x : Int} {wr : World} (h : InvState T E B bl g cap xs L k cnt wr) (hL : L.length = m) (hx : xs[k]? = some x)
    (hf : (∀ t, t < i → decide (x < L.getD t 0) = false) ∧ (∀ t, i ≤ t → t < m → decide (x < L.getD t 0) = true)) (him : i ≤ m) (hm : m ≤ n) (hk : k < n) (hxn : n = xs.length) :
    Asc (L.take i ++ [x] ++ L.drop i) ∧ (L.take i ++ [x] ++ L.drop i).Perm (xs.take (k + 1)) ∧ cnt + (m - i) = inv (xs.take (k + 1)) ∧ (L.take i ++ [x] ++ L.drop i).length = m + 1 := by
  obtain ⟨_, _, hasc, hperm, hcnt⟩ := h
  have hget : ∀ {t : Nat} {y : Int}, L[t]? = some y → L.getD t 0 = y := fun {t y} ht => by rw [List.getD_eq_getElem?_getD, ht]; rfl
  have h1 : ∀ y ∈ L.take i, ¬ x < y := fun y hy => by
    obtain ⟨t, ht, hty⟩ := mem_take_get hy
    have := hf.1 t ht
    rw [hget hty] at this
    simpa using this
  have h2 : ∀ y ∈ L.drop i, x < y := fun y hy => by
    obtain ⟨t, ht, hty⟩ := mem_drop_get hy
    have htl := (List.getElem?_eq_some_iff.1 hty).1
    have := hf.2 t ht (by omega)
    rw [hget hty] at this
    simpa using this
  have htk : xs.take (k + 1) = xs.take k ++ [x] := by rw [List.take_add_one, hx]; rfl
  have hc : L.countP (fun y => decide (x < y)) = L.length - i := countP_parted L _ i (fun y hy => by simpa using h1 y hy) (fun y hy => by simpa using h2 y hy)
  have hinv : inv (xs.take (k + 1)) = cnt + (m - i) := by
    rw [htk, inv_snoc, ← hcnt, ← hperm.countP_eq, hc, hL]
  refine ⟨asc_insert hasc i x (fun y hy => by have := h1 y hy; omega) (fun y hy => by have := h2 y hy; omega), ?_, hinv.symm, by simp; omega⟩
  · rw [htk]
    exact (perm_insert L i x).trans (hperm.append_right [x])

theorem wrap_add (c a b : Int) (h : c = IntKind.i64.wrap a) : wrap64 (c + b) = IntKind.i64.wrap (a + b) := by
  rw [h, IntKind.wrap_i64, IntKind.wrap_i64]
  unfold wrap64
  omega

set_option maxHeartbeats 4000000 in
theorem inversionsW_any (v : Value) (xs : List Int) (w : World) (h : Ro w v xs) (hn : xs.length ≤ 17592186044416) :
    Calls Try.prog 29 #[v] w fun e w' => e = .returned (.int .i64 (IntKind.i64.wrap (inv xs : Nat))) ∧ Below w.heap.size w w' := by
  obtain ⟨A, c, b, off, rfl, hnc, hcm, ha, hcell⟩ := h
  obtain ⟨n, hxn⟩ : ∃ n, n = xs.length := ⟨_, rfl⟩
  rw [← hxn] at hn hnc ha ⊢
  have HX := Lib.hid hxn
  have HC := Lib.hid hcell
  have HA := Lib.hid ha
  clear hxn hcell ha
  unfold maxLen at hcm
  go_enter Try.func29, Try.ntmps29
  go_wp2_with fail
  go_loopg [3, 11] n (fun kx s3 s11 wr => ∃ k cnt g cap m : Nat, ∃ L : List Int, ∃ c : Int, k ≤ n ∧ s11 = .int .i64 k ∧ s3 = .int .i64 c ∧ n - k ≤ kx ∧ Hid (c = IntKind.i64.wrap (cnt : Int)) ∧ m ≤ k ∧ Below w.heap.size w wr ∧ w.heap.size + 1 < wr.heap.size ∧
    Hid (L.length = m) ∧ Hid (InvState 22 3 w.heap.size (w.heap.size + 1) g cap xs L k cnt wr))
  case atStart =>
    refine ⟨0, 0, w.heap.size, 0, 0, [], 0, Nat.zero_le _, rfl, rfl, by omega, (by show (0 : Int) = IntKind.i64.wrap 0; rfl), by omega, ((Below.refl _ _).alloc (Nat.le_refl _) _).alloc (by simp) _, by simp, rfl, ?_⟩
    exact ⟨by simpa using heap_alloc_new (w.alloc (.cells #[] 3)) (.cells #[.slice (some ⟨w.heap.size, 0, none⟩) 0 0] 22), (ownE (e := 3) (size := 1) w (Nat.le_refl _)).alloc _, by simp [Asc], by simp, by simp [inv]⟩
  case round =>
    obtain ⟨k, cnt, g, cap, m, L, cc, hk, rfl, rfl, hkk, HCN, hm, hb, hsz, HL, HS⟩ := hrel
    by_cases hlt : k < n
    · obtain ⟨x, hx⟩ : ∃ x, xs[k]? = some x := ⟨xs[k]'(by have := HX.out; omega), List.getElem?_eq_getElem _⟩
      obtain ⟨rfl, hbl⟩ := HA.out (by omega)
      have hc1 : wr.cell? ⟨b, off + k, none⟩ = some (.int .i64 x) := (hb.cell (p := ⟨b, off + k, none⟩) hbl).trans (HC.out k x hx)
      have hbox : wr.cell? ⟨w.heap.size + 1, 0, none⟩ = some (.slice (some ⟨g, 0, none⟩) m cap) := by have := cell_of_one HS.out.1; rwa [HL.out] at this
      have HXX := Lib.hid hx
      clear hx
      have hz1 : ∀ o, (wr.alloc o).heap.size = wr.heap.size + 1 := fun o => by simp
      have HZ := Lib.hid hz1
      clear hz1
      go_wp2_with fail
      refine (search_at _ _ _ m (fun i => decide (x < L.getD i 0)) _ rfl enters_inv1 (by omega) ?hf ?hmono).mono ?_
      case hmono =>
        intro i j hij hj hp
        have hl := HL.out
        simp only [decide_eq_true_eq, List.getD_eq_getElem?_getD] at hp ⊢
        rw [List.getElem?_eq_getElem (by omega), Option.getD_some] at hp ⊢
        have := asc_get HS.out.2.2.1 hij (List.getElem?_eq_getElem (by omega)) (List.getElem?_eq_getElem (by omega))
        omega
      case hf =>
        intro W i hbW hi
        have hl := HL.out
        have e1 : L[i]? = some (L.getD i 0) := by rw [List.getD_eq_getElem?_getD, List.getElem?_eq_getElem (by omega), Option.getD_some]
        have q1 : W.cell? ⟨w.heap.size + 1, 0, none⟩ = some (.slice (some ⟨g, 0, none⟩) m cap) := (hbW.cell (p := ⟨w.heap.size + 1, 0, none⟩) (by simp; omega)).trans ((World.cell?_alloc_lt wr _ _ (by simp; omega)).trans hbox)
        have q2 : W.cell? ⟨wr.heap.size, 0, none⟩ = some (.int .i64 x) := (hbW.cell (p := ⟨wr.heap.size, 0, none⟩) (by simp)).trans (by simp [go_sem])
        have hg : g < wr.heap.size := by
          rcases HS.out.2.1.2 with ⟨h0, _⟩ | ⟨g', cap', cur, h0, _, hgg, _⟩
          · simp at h0
          · simp at h0
            rw [h0.1]
            exact (Array.getElem?_eq_some_iff.1 hgg).1
        have q3 : W.cell? ⟨g, i, none⟩ = some (.int .i64 (L.getD i 0)) := by
          refine (hbW.cell (p := ⟨g, i, none⟩) (by simp; omega)).trans ((World.cell?_alloc_lt wr _ _ (by simp; omega)).trans ?_)
          have ho := HS.out.2.1
          unfold Own at ho
          rw [hl] at ho
          rw [ho.cellAt i (by omega), List.getElem?_map, e1]
          rfl
        exact (inv1_any W _ _ g m cap i x _ hi q1 q2 q3).mono fun e w' ⟨h1, h2⟩ => ⟨h1, hbW.trans (h2.mono (by have := hbW.size; simpa using this))⟩
      rintro e w1 ⟨i, rfl, him, hf1, hf2, hb1⟩
      have HF := Lib.hid (And.intro hf1 hf2)
      clear hf1 hf2
      have hb1s : wr.heap.size + 1 ≤ w1.heap.size := by have := hb1.size; simpa using this
      have hbox1 : w1.cell? ⟨w.heap.size + 1, 0, none⟩ = some (.slice (some ⟨g, 0, none⟩) m cap) := (hb1.cell (p := ⟨w.heap.size + 1, 0, none⟩) (by simp; omega)).trans ((World.cell?_alloc_lt wr _ _ (by simp; omega)).trans hbox)
      have hv1 : w1.cell? ⟨wr.heap.size, 0, none⟩ = some (.int .i64 x) := (hb1.cell (p := ⟨wr.heap.size, 0, none⟩) (by simp)).trans (by simp [go_sem])
      have hfz1 : w1.frozen? ⟨w.heap.size + 1, 0, none⟩ = false := (hb1.frozen (p := ⟨w.heap.size + 1, 0, none⟩) (by simp; omega)).trans ((World.frozen?_alloc_old wr _ _ (by simp; omega)).trans (free_of_one HS.out.1))
      have HB1 := Lib.hid hb1
      clear hb1 hbox hc1
      obtain ⟨hmc, hcap⟩ : m ≤ cap ∧ cap ≤ 9223372036854775807 := by
        rcases HS.out.2.1.2 with ⟨h0, _⟩ | ⟨g', cap', cur, h0, _, _, h1, h2, _⟩
        · simp at h0
        · simp at h0
          unfold maxLen at h2
          have := HL.out
          omega
      have hOw1 : Own 3 w.heap.size w1 (.slice (some ⟨g, 0, none⟩) L.length cap) L := Own.below (World.ownsRow.alloc HS.out.2.1 _) HB1.out
      have hs1 : ∀ W, Below w1.heap.size w1 W → Src W 1 (some ⟨g, 0, none⟩) i ((L.take i).map (Value.int .i64)) := fun W h => src_take (hOw1.below h) i (by rw [HL.out]; exact him)
      have hs2 : ∀ W, Below w1.heap.size w1 W → Src W 1 (if cap = i then some ⟨g, 0, none⟩ else some ⟨g, i, none⟩) (m - i) ((L.drop i).map (Value.int .i64)) := fun W h => by
        have := src_drop (hOw1.below h) i (by rw [HL.out]; exact him)
        rwa [HL.out] at this
      have HS1 := Lib.hid hs1
      have HS2 := Lib.hid hs2
      clear hs1 hs2 hOw1
      have z0 : (0 : Int) ≤ (i : Int) := by omega
      have z1 : (i : Int) ≤ (m : Int) := by omega
      have z2 : (i : Int) ≤ (cap : Int) := by omega
      have z3 : (m : Int) ≤ (cap : Int) := by omega
      go_wp2_with fail
      refine wp_region_Z 12 (fun w' => w'.cell? ⟨w.heap.size + 1, 0, none⟩ = some (.slice (some ⟨g, 0, none⟩) m cap) ∧ w'.cell? ⟨wr.heap.size, 0, none⟩ = some (.int .i64 x) ∧ w'.frozen? ⟨w.heap.size + 1, 0, none⟩ = false ∧ Below w1.heap.size w1 w') (by kernel_rfl) ?_
      have hS0 := keepS hbox1 hv1 hfz1 (Below.refl w1.heap.size w1).drew
      refine wpAnyZ_take (i := 1) (v := .slice (some ⟨g, 0, none⟩) m cap) rfl (by kernel_rfl) (by kernel_rfl) (by kernel_rfl) (by kernel_rfl) (fun _ _ _ h => h) (.inl ⟨rfl, fun w' h => ?y1⟩) hS0 ?_
      case y1 =>
        obtain ⟨e1, e2, e3, e4⟩ := h
        go_simp
      refine wpAnyZ_take (i := 2) (v := .int .i64 i) rfl (by kernel_rfl) (by kernel_rfl) (by kernel_rfl) (by kernel_rfl) (fun _ _ _ h => h) (.inl ⟨rfl, fun w' h => ?y2⟩) hS0 ?_
      case y2 =>
        obtain ⟨e1, e2, e3, e4⟩ := h
        go_simp
      refine wpAnyZ_take (i := 3) (v := .slice (some ⟨g, 0, none⟩) i cap) rfl (by kernel_rfl) (by kernel_rfl) (by kernel_rfl) (by kernel_rfl) (fun _ _ _ h => h) (.inl ⟨rfl, fun w' h => ?y3⟩) hS0 ?_
      case y3 =>
        obtain ⟨e1, e2, e3, e4⟩ := h
        go_simp
      refine wpAnyZ_take (i := 5) (v := .int .i64 x) rfl (by kernel_rfl) (by kernel_rfl) (by kernel_rfl) (by kernel_rfl) (fun _ _ _ h => h) (.inl ⟨rfl, fun w' h => ?y5⟩) hS0 ?_
      case y5 =>
        obtain ⟨e1, e2, e3, e4⟩ := h
        go_simp
      refine wpAnyZ_take (i := 8) (v := .slice (some ⟨g, 0, none⟩) m cap) rfl (by kernel_rfl) (by kernel_rfl) (by kernel_rfl) (by kernel_rfl) (fun _ _ _ h => h) (.inl ⟨rfl, fun w' h => ?y8⟩) hS0 ?_
      case y8 =>
        obtain ⟨e1, e2, e3, e4⟩ := h
        go_simp
      refine wpAnyZ_take (i := 9) (v := .int .i64 i) rfl (by kernel_rfl) (by kernel_rfl) (by kernel_rfl) (by kernel_rfl) (fun _ _ _ h => h) (.inl ⟨rfl, fun w' h => ?y9⟩) hS0 ?_
      case y9 =>
        obtain ⟨e1, e2, e3, e4⟩ := h
        go_simp
      refine wpAnyZ_take (i := 10) (v := .slice (if cap = i then some ⟨g, 0, none⟩ else some ⟨g, i, none⟩) (m - i) (cap - i)) rfl (by kernel_rfl) (by kernel_rfl) (by kernel_rfl) (by kernel_rfl) (fun _ _ _ h => h) (.inl ⟨rfl, fun w' h => ?y10⟩) hS0 ?_
      case y10 =>
        obtain ⟨e1, e2, e3, e4⟩ := h
        go_simp
      refine ins_six (w1 := w1) (c1 := cap) (c2 := cap - i) (i := i) (x := x) (m2 := m - i) (d0 := 25) (d1 := 29) (d2 := 31) (d3 := 32) (d4 := 36) (s1 := 28) (s2 := 30) (s4 := 35) (sb := 4) (i0 := 0) (i1 := 4) (i2 := 6) (i3 := 7) (i4 := 11)
        ⟨rfl, rfl, rfl, rfl, rfl, rfl, ⟨rfl, rfl, rfl, rfl, rfl, rfl⟩, rfl, rfl, rfl, rfl, rfl, rfl, ⟨rfl, rfl, rfl, rfl, rfl, rfl⟩⟩ ints_ok (by kernel_rfl) (by kernel_rfl) (by kernel_rfl) (by kernel_rfl) (by kernel_rfl) (by kernel_rfl) (by kernel_rfl) (by kernel_rfl) (by kernel_rfl) (by kernel_rfl)
        (by decide) (by decide) (by decide) (by decide) (by simp [size_put]) (by simp [size_put]) (by simp [size_put]) (by simp [size_put]) (by simp [size_put]) hbox1 hfz1 (fun W' h => keepS hbox1 hv1 hfz1 h) ?e1 ?e2 ?e4 ?eb (fun W' h => HS1.out W' h) (fun W' h => HS2.out W' h) (by omega) ?_
      case e1 => go_simp
      case e2 => go_simp
      case e4 => go_simp
      case eb => go_simp
      intro g3 cap3 v0 v1 v2 v3 w4 hown3 hb4
      have hfinal := inv_round HS.out HL.out HXX.out HF.out him (by omega) hlt HX.out
      have hst : wr.heap.size + 1 ≤ w4.heap.size := Nat.le_trans hb1s hb4.size
      have hbw1 : Below w.heap.size w w1 := (hb.alloc hb.size _).trans (HB1.out.mono (by simp; omega))
      have hbx4 : w4.heap[w.heap.size + 1]? = some (.cells #[.slice (some ⟨g, 0, none⟩) m cap] 22 (0, 0)) := by
        rw [hb4.block _ (by omega), HB1.out.block _ (by simp; omega), Below.heap_alloc wr _ _ (by omega)]
        have := HS.out.1
        rwa [HL.out] at this
      have hB3 : w1.heap.size ≤ g3 := (hown3.lt _ rfl).1
      have HO := Lib.hid hown3
      have HFI := Lib.hid hfinal
      have HBX := Lib.hid hbx4
      clear hown3 hfinal hbx4
      go_wp2_with fail
      all_goals go_roundg (n - (k + 1))
      all_goals first | omega | skip
      all_goals
        obtain ⟨f1, f2, f3, f5⟩ := HFI.out
        refine ⟨k + 1, cnt + (m - i), g3, cap3, m + 1, L.take i ++ [x] ++ L.drop i, _, by omega, by go_num, rfl, by omega, (by rw [show ((cnt + (m - i) : Nat) : Int) = (cnt : Int) + ((m : Int) - (i : Int)) by omega]; exact wrap_add _ _ _ HCN.out), by omega, ?_, by simp [World.setCell]; omega, f5, ?_⟩
        · exact (hbw1.trans (hb4.mono hbw1.size)).setCell (p := ⟨w.heap.size + 1, 0, none⟩) (by show w.heap.size ≤ w.heap.size + 1; omega) _
        · have hn3 : i + 1 + (m - i) = m + 1 := by omega
          refine ⟨?_, ?_, f1, f2, f3⟩
          · have := one_setCell (u := .slice (some ⟨g3, 0, none⟩) (m + 1) cap3) HBX.out
            rw [f5, hn3]
            exact this
          · unfold Own
            rw [f5]
            have h9 := HO.out
            rw [hn3] at h9 ⊢
            have h10 : (L.take i ++ [x] ++ L.drop i).map (Value.int .i64) = (L.take i).map (Value.int .i64) ++ [.int .i64 x] ++ (L.drop i).map (Value.int .i64) := by simp
            rw [h10]
            have h11 := ownsRow_setCell_other (a := ⟨w.heap.size + 1, 0, none⟩) h9 (by simp [Value.ownBlock]; omega) (.slice (some ⟨g3, 0, none⟩) (m + 1) cap3)
            exact Own_base h11 (by have := hbw1.size; omega)
    · obtain rfl : k = n := by omega
      go_wp2_with fail
      go_ret
      refine ⟨ret_int ?_, hb⟩
      have h5 := HS.out.2.2.2.2
      rw [List.take_of_length_le (by rw [← HX.out]; omega)] at h5
      rw [HCN.out, h5]

theorem inversions_any (v : Value) (xs : List Int) (w : World) (h : Ro w v xs) (hn : xs.length ≤ 2097152) :
    Calls Try.prog 29 #[v] w fun e w' => e = .returned (.int .i64 (inv xs : Nat)) ∧ Below w.heap.size w w' :=
  (inversionsW_any v xs w h (by omega)).mono fun e w' ⟨h1, h2⟩ => ⟨by
    rw [h1, IntWalk.i64_in]
    have h5 := inv_le xs
    have h7 := Nat.mul_le_mul hn hn
    omega, h2⟩

end Go.Proofs.Ytiioojnoggcnmaa

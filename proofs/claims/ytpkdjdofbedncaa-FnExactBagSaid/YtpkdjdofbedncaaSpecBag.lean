/-
  What is proved here: contracts of the reference's without and Bag: they return what the orders tell and the ascending list; condition: at most 2^42 numbers and orders in all.
-/
import Derived.Test.YtpkdjdofbedncaaBag
import Derived.Test.YtpkdjdofbedncaaLess
import Derived.Test.YtpkdjdofbedncaaSpecAsc
namespace Go.Proofs.Ytpkdjdofbedncaa
open Go.RowKit
set_option linter.unusedVariables false

theorem asc_same {a b : List Int} (h : a.Perm b) : asc a = asc b := asc_eq (asc_asc a) ((asc_perm a).trans h)
theorem lessN_perm {a b : List Int} (h : a.Perm b) (v : Int) : lessN a v = lessN b v := h.countP_eq _
theorem erase_take_hit {xs : List Int} {k : Nat} {x : Int} (h : xs[k]? = some x) (hn : ¬ x ∈ xs.take k) : (xs.take (k + 1)).erase x = xs.take k := by
  rw [List.take_add_one, h, List.erase_append_right _ hn]
  simp
theorem erase_take_other {xs : List Int} {k : Nat} {x v : Int} (h : xs[k]? = some x) (hn : ¬ (x = v ∧ ¬ v ∈ xs.take k)) : (xs.take (k + 1)).erase v = (xs.take k).erase v ++ [x] := by
  rw [List.take_add_one, h]
  by_cases hm : v ∈ xs.take k
  · rw [List.erase_append_left _ hm]
    rfl
  · have hx : x ≠ v := fun e => hn ⟨e, hm⟩
    rw [List.erase_append_right _ hm, List.erase_of_not_mem hm]
    simp [hx]
theorem mem_take_step {xs : List Int} {k : Nat} {x v : Int} (h : xs[k]? = some x) : v ∈ xs.take (k + 1) ↔ v ∈ xs.take k ∨ v = x := by
  rw [List.take_add_one, h, List.mem_append]
  simp

set_option maxHeartbeats 2000000 in
theorem without_some (va : Value) (xs : List Int) (v : Int) (w : World) (ha : Ro w va xs) (hn : xs.length ≤ 8796093022208) :
    Calls Try.prog 51 #[va, .int .i64 v] w fun e w' => ∃ g k cap, e = .returned (.slice (some ⟨g, 0, none⟩) k cap) ∧ Own 3 w.heap.size w' (.slice (some ⟨g, 0, none⟩) k cap) (xs.erase v) ∧ Below w.heap.size w w' := by
  have HR := Lib.hid ha
  obtain ⟨A, c, b, off, rfl, hnc, hcm, -, -⟩ := Ro.shape ha
  obtain ⟨n, hxn⟩ : ∃ n, n = xs.length := ⟨_, rfl⟩
  rw [← hxn] at hn hnc HR ⊢
  have HX := Lib.hid hxn
  clear hxn ha
  unfold maxLen at hcm
  have hbw : Below w.heap.size w (w.alloc (.cells #[] 3)) := (Below.refl _ _).alloc (Nat.le_refl _) _
  go_enter Try.func51, Try.ntmps51
  go_wp2_with fail
  go_loopg [5, 6, 12] n (fun kx s5 s6 s12 wr => ∃ (j k g cap : Nat) (f : Bool) (L : List Int), s5 = .slice (some ⟨g, 0, none⟩) k cap ∧ s6 = .bool f ∧ s12 = .int .i64 j ∧ j ≤ n ∧ n - j ≤ kx ∧ k ≤ j ∧
    Hid (f = decide (v ∈ xs.take j)) ∧ Hid (L = (xs.take j).erase v) ∧ Hid (Out 3 w.heap.size w.heap.size (w.alloc (.cells #[] 3)) wr g k cap L))
  case atStart => exact ⟨0, 0, w.heap.size, 0, false, [], rfl, rfl, rfl, Nat.zero_le _, by omega, Nat.le_refl _, (by show false = decide (v ∈ xs.take 0); simp), (by show [] = (xs.take 0).erase v; simp), Out.start (ownE (e := 3) (size := 1) w (Nat.le_refl _))⟩
  case round =>
    obtain ⟨j, k, g, cap, f, L, rfl, rfl, rfl, hj, hjk, hkj, HF, HL, HO⟩ := hrel
    obtain ⟨hgB, hgl, hlc, hcap, hsz⟩ := HO.out.lt
    unfold maxLen at hcap
    by_cases hlt : j < n
    · obtain ⟨x, hx⟩ := get_some HX.out hlt
      obtain ⟨b1, o1, rfl, hc, hbl⟩ := (HR.out.below (HO.out.belowW hbw (Nat.le_refl _))).at hx
      have HXX := Lib.hid hx
      clear hx
      by_cases hit : x = v ∧ f = false
      · obtain ⟨rfl, rfl⟩ := hit
        have hnm : ¬ x ∈ xs.take j := by have := HF.out; simpa using this.symm
        have HN1 : Hid (true = decide (x ∈ xs.take (j + 1))) := by show true = _; rw [decide_eq_true ((mem_take_step HXX.out).2 (.inr rfl))]
        have HN2 : Hid (L = (xs.take (j + 1)).erase x) := by show L = _; rw [erase_take_hit HXX.out hnm, HL.out, List.erase_of_not_mem hnm]
        clear hnm
        go_wp2_with fail
        go_roundg (n - (j + 1))
        case measure => omega
        case rel => exact ⟨j + 1, k, g, cap, true, L, rfl, rfl, by go_num, by omega, by omega, by omega, HN1.out, HN2.out, HO.out⟩
      · have HN1 : Hid (f = decide (v ∈ xs.take (j + 1))) := by
          show f = _
          rw [HF.out]
          congr 1
          rw [mem_take_step HXX.out]
          have h1 := HF.out
          by_cases hm : v ∈ xs.take j
          · simp [hm]
          · have : f = false := by rw [h1]; simpa using hm
            have hxv : ¬ v = x := fun e => hit ⟨e.symm, this⟩
            simp [hm, hxv]
        have HN2 : Hid (L ++ [x] = (xs.take (j + 1)).erase v) := by
          show L ++ [x] = _
          rw [erase_take_other HXX.out, HL.out]
          rintro ⟨h1, h2⟩
          exact hit ⟨h1, by rw [HF.out]; simpa using h2⟩
        by_cases hxv : x = v
        · subst hxv
          have hf : f = true := by cases f with | true => rfl | false => exact absurd ⟨rfl, rfl⟩ hit
          subst hf
          clear hit
          go_wp2_with (at_builtin; refine wpList_app _ rfl (.tmp 23) (.tmp 25) rfl ints_ok w.heap.size g k cap (L.map (Value.int .i64)) (by rfl) (HO.out.row.alloc _) _ 1 1 [.int .i64 x] (by rfl) (Src.one _ _ _) (by unfold maxLen; omega) (by omega) (by simp; omega) (k + 1) rfl _ rfl ?_; intro g5 cap5 w5 hown5 hgrow5 hat5)
          have HO5 := Lib.hid (HO.out.app hown5 hgrow5 hat5)
          clear hown5 hgrow5 hat5
          go_wp2_with fail
          go_roundg (n - (j + 1))
          case measure => omega
          case rel => exact ⟨j + 1, k + 1, g5, cap5, true, L ++ [x], rfl, rfl, by go_num, by omega, by omega, by omega, HN1.out, HN2.out, HO5.out⟩
        · have hne : (x == v) = false := by simpa using hxv
          clear hit
          go_wp2_with (at_builtin; refine wpList_app _ rfl (.tmp 23) (.tmp 25) rfl ints_ok w.heap.size g k cap (L.map (Value.int .i64)) (by rfl) (HO.out.row.alloc _) _ 1 1 [.int .i64 x] (by rfl) (Src.one _ _ _) (by unfold maxLen; omega) (by omega) (by simp; omega) (k + 1) rfl _ rfl ?_; intro g5 cap5 w5 hown5 hgrow5 hat5)
          have HO5 := Lib.hid (HO.out.app hown5 hgrow5 hat5)
          clear hown5 hgrow5 hat5
          go_wp2_with fail
          go_roundg (n - (j + 1))
          case measure => omega
          case rel => exact ⟨j + 1, k + 1, g5, cap5, f, L ++ [x], rfl, rfl, by go_num, by omega, by omega, by omega, HN1.out, HN2.out, HO5.out⟩
    · obtain rfl : j = n := by omega
      have HFI : Hid (Own 3 w.heap.size wr (.slice (some ⟨g, 0, none⟩) k cap) (xs.erase v)) := by
        have h1 := HO.out.2.1
        rw [HL.out, List.take_of_length_le (by rw [← HX.out]; exact Nat.le_refl _)] at h1
        exact h1
      have hbf := HO.out.belowW hbw (Nat.le_refl _)
      have HB := Lib.hid hbf
      clear hbf
      go_wp2_with fail
      go_ret
      exact ⟨g, k, cap, rfl, HFI.out, HB.out⟩

/-- What the reference's loop holds: the bag in any order, and what has been told. -/
def SB (E : TypeId) (w wr : World) (gb m cb g k cap : Nat) (U L : List Int) : Prop :=
  Own E w.heap.size wr (.slice (some ⟨gb, 0, none⟩) m cb) U ∧ U.length = m ∧ Own E w.heap.size wr (.slice (some ⟨g, 0, none⟩) k cap) L ∧ L.length = k ∧ gb ≠ g ∧ Below w.heap.size w wr
section
variable {E : TypeId} {w wr w2 w5 : World} {gb m cb g k cap g5 cap5 : Nat} {U L : List Int} {x : Int} {o : Obj}
theorem SB.below (h : SB E w wr gb m cb g k cap U L) (hb : Below wr.heap.size wr w2) : SB E w w2 gb m cb g k cap U L :=
  ⟨h.1.below hb, h.2.1, h.2.2.1.below hb, h.2.2.2.1, h.2.2.2.2.1, h.2.2.2.2.2.trans (hb.mono h.2.2.2.2.2.size)⟩
theorem SB.lt (h : SB E w wr gb m cb g k cap U L) : w.heap.size ≤ gb ∧ gb < wr.heap.size ∧ m ≤ cb ∧ cb ≤ maxLen ∧ w.heap.size ≤ g ∧ g < wr.heap.size ∧ k ≤ cap ∧ cap ≤ maxLen ∧ w.heap.size ≤ wr.heap.size := by
  obtain ⟨a1, a2, a3, a4, a5⟩ := own_lt h.1
  obtain ⟨c1, c2, c3, c4, c5⟩ := own_lt h.2.2.1
  exact ⟨a1, a2, a4, a5, c1, c2, c4, c5, h.2.2.2.2.2.size⟩
theorem SB.rowL (h : SB E w wr gb m cb g k cap U L) : wr.ownsRow w.heap.size E 1 (.slice (some ⟨g, 0, none⟩) k cap) k (L.map (Value.int .i64)) := by
  have := h.2.2.1
  unfold Own at this
  rwa [h.2.2.2.1] at this
theorem SB.rowU (h : SB E w wr gb m cb g k cap U L) : wr.ownsRow w.heap.size E 1 (.slice (some ⟨gb, 0, none⟩) m cb) m (U.map (Value.int .i64)) := by
  have := h.1
  unfold Own at this
  rwa [h.2.1] at this
theorem SB.told (h : SB E w wr gb m cb g k cap U L) (hown : w5.ownsRow w.heap.size E 1 (.slice (some ⟨g5, 0, none⟩) (k + 1) cap5) (k + 1) (L.map (Value.int .i64) ++ [.int .i64 x])) (hg : (wr.alloc o).grownBy w5 (some g)) (hat : g5 = g ∨ g5 = (wr.alloc o).heap.size) :
    SB E w w5 gb m cb g5 (k + 1) cap5 U (L ++ [x]) := by
  obtain ⟨l1, l2, _, _, l3, l4, _, _, l5⟩ := h.lt
  obtain ⟨h1, h2, h3, h4, h5, h6⟩ := h
  refine ⟨World.ownsRow.kept (World.ownsRow.alloc h1 o) hg (.inr (by simp [Value.ownBlock]; exact h5)), h2, ?_, by rw [List.length_append, h4]; rfl, ?_, (h6.alloc h6.size o).grown hg (by simp; omega) (fun k hk => by injection hk with hk; omega)⟩
  · unfold Own
    rw [List.length_append, h4, List.map_append]
    exact hown
  · rcases hat with e | e
    · omega
    · simp at e; omega
theorem SB.put (h : SB E w wr gb m cb g k cap U L) (hown : w5.ownsRow w.heap.size E 1 (.slice (some ⟨g5, 0, none⟩) (m + 1) cap5) (m + 1) (U.map (Value.int .i64) ++ [.int .i64 x])) (hg : (wr.alloc o).grownBy w5 (some gb)) (hat : g5 = gb ∨ g5 = (wr.alloc o).heap.size) :
    SB E w w5 g5 (m + 1) cap5 g k cap (U ++ [x]) L := by
  obtain ⟨l1, l2, _, _, l3, l4, _, _, l5⟩ := h.lt
  obtain ⟨h1, h2, h3, h4, h5, h6⟩ := h
  refine ⟨?_, by rw [List.length_append, h2]; rfl, World.ownsRow.kept (World.ownsRow.alloc h3 o) hg (.inr (by simp [Value.ownBlock]; omega)), h4, ?_, (h6.alloc h6.size o).grown hg (by simp; omega) (fun k hk => by injection hk with hk; omega)⟩
  · unfold Own
    rw [List.length_append, h2, List.map_append]
    exact hown
  · rcases hat with e | e
    · omega
    · simp at e; omega
theorem SB.fresh {gb2 m2 cb2 : Nat} {U2 : List Int} (h : SB E w wr gb m cb g k cap U L) (hb : Below wr.heap.size wr w2) (hown : Own E wr.heap.size w2 (.slice (some ⟨gb2, 0, none⟩) m2 cb2) U2) : SB E w w2 gb2 m2 cb2 g k cap U2 L := by
  obtain ⟨l1, l2, _, _, l3, l4, _, _, l5⟩ := h.lt
  have h' := h.below hb
  obtain ⟨a1, a2, a3, a4, a5⟩ := own_lt hown
  exact ⟨hown.mono l5, a3, h'.2.2.1, h'.2.2.2.1, by omega, h'.2.2.2.2.2⟩
end

theorem bag_step0 {U L : List Int} {op v : Int} (h : op % 4 = 0) : bagStep (L, asc U) (op, v) = (L ++ [((U.countP (fun y => decide (y < v)) : Nat) : Int)], asc (U ++ [v])) := by
  rw [bagStep0 h]
  simp only
  rw [asc_ins_eq (asc_asc U) v, lessN_perm (asc_perm U) v, asc_same ((asc_perm U).append_right [v])]
  rfl
theorem bag_step2 {U L : List Int} {op v : Int} (h : op % 4 = 2) : bagStep (L, asc U) (op, v) = (L ++ [((U.countP (fun y => decide (y < v)) : Nat) : Int)], asc U) := by
  rw [bagStep2 h]
  simp only
  rw [lessN_perm (asc_perm U) v]
  rfl
theorem bag_step1 {U L : List Int} {op v : Int} (h : op % 4 = 1) : bagStep (L, asc U) (op, v) = (L ++ [(U.length : Int) - ((U.erase v).length : Int)], asc (U.erase v)) := by
  by_cases hm : v ∈ U
  · have hm' : v ∈ asc U := (asc_perm U).mem_iff.2 hm
    rw [bagStep1y h hm']
    simp only
    have h1 := perm_del (asc_asc U) hm'
    have h2 : ((asc U).take (lessN (asc U) v) ++ (asc U).drop (lessN (asc U) v + 1)).Perm (U.erase v) :=
      (h1.trans ((asc_perm U).trans (List.perm_cons_erase hm))).cons_inv
    rw [asc_eq (asc_del (asc_asc U) _) h2]
    have h3 := List.length_erase_of_mem hm
    have h4 : 0 < U.length := List.length_pos_of_mem hm
    congr 3
    omega
  · have hm' : ¬ v ∈ asc U := fun h => hm ((asc_perm U).mem_iff.1 h)
    rw [bagStep1n h hm', List.erase_of_not_mem hm]
    simp
theorem bag_step3 {U L : List Int} {op v : Int} (h : op % 4 = 3) : bagStep (L, asc U) (op, v) = (L ++ [(asc U).getD (v % (U.length : Int)).toNat 0], asc U) := by
  rw [bagStep3 h]
  simp only [asc_len]

theorem specAsc_at (va : Value) (U : List Int) (mb q : Nat) (y : Int) (w : World) (h : Ro w va U) (hm : U.length = mb) (hn : mb ≤ 8796093022208) (hq : q < mb) (hy : (asc U)[q]? = some y) :
    Calls Try.prog 52 #[va] w fun e w' => ∃ g3 c3, e = .returned (.slice (some ⟨g3, 0, none⟩) mb c3) ∧ mb ≤ c3 ∧ w'.cell? ⟨g3, q, none⟩ = some (.int .i64 y) ∧ Below w.heap.size w w' :=
  (specAscending_any va U w h (by rw [hm]; exact hn)).mono fun e w' ⟨v, h1, h2, h3⟩ => by
    obtain ⟨A3, c3, g3, rfl, h4, h5, h6⟩ := h2.shape
    rw [asc_len, hm] at h4 h6 h1 h2
    obtain rfl := h6 (by omega)
    exact ⟨g3, c3, h1, h4, (own_cell h2 hy).1, h3⟩

set_option maxRecDepth 100000 in
set_option maxHeartbeats 8000000 in
theorem specBag_any (va vb : Value) (xs : List Int) (os : List (Int × Int)) (w : World) (ha : Ro w va xs) (hb : Ros2 w vb os) (hn : xs.length + os.length ≤ 4398046511104) :
    Calls Try.prog 31 #[va, vb] w (MadeB 3 (bagRun ([], asc xs) os) w) := by
  have HRA := Lib.hid ha
  have HRB := Lib.hid hb
  obtain ⟨A, c, b, off, rfl, hnc, hcm, -, -⟩ := Ro.shape ha
  obtain ⟨A1, c1, b1, off1, rfl, hnc1, hcm1, -, -⟩ := hb.shape
  obtain ⟨n, hxn⟩ : ∃ n, n = xs.length := ⟨_, rfl⟩
  obtain ⟨m, hym⟩ : ∃ m, m = os.length := ⟨_, rfl⟩
  rw [← hxn] at HRA hnc ⊢
  rw [← hym] at HRB hnc1 ⊢
  rw [← hxn, ← hym] at hn
  have HX := Lib.hid hxn
  have HY := Lib.hid hym
  clear hxn hym ha hb
  unfold maxLen at hcm hcm1
  go_enter Try.func31, Try.ntmps31
  go_wp2_with (at_builtin; refine wpList_app _ rfl (.tmp 11) (.tmp 12) rfl ints_ok w.heap.size w.heap.size 0 0 [] (by rfl) (ownE _ (Nat.le_refl _)) _ n c (xs.map (Value.int .i64)) (by rfl) ((Ro.src HRA.out).2.alloc _) (by unfold maxLen; omega) (by omega) (by simp) n (by omega) _ rfl ?_; intro g2 cap2 w2 hown2 hgrow2 hat2)
  obtain ⟨hg2B, hg2l⟩ := hown2.lt g2 rfl
  have hb2 : Below w.heap.size w w2 := below_app hgrow2 (Nat.le_refl _) ((Below.refl _ _).alloc (Nat.le_refl _) _)
  have hs2 := hb2.size
  have hst : SB 3 w (w2.alloc (.cells #[] 3)) g2 n cap2 w2.heap.size 0 0 xs [] :=
    ⟨own_ro (hown2.alloc _) HX.out.symm, HX.out.symm, ownE (e := 3) (size := 1) w2 hs2, rfl, by omega, hb2.alloc hs2 _⟩
  have HST0 := Lib.hid hst
  clear hown2 hgrow2 hat2 hst
  go_wp2_with fail
  go_loopg [6, 7, 17] m (fun kx s6 s7 s17 wr => ∃ (j mb gb cb g cap : Nat) (U L : List Int), s6 = .slice (some ⟨gb, 0, none⟩) mb cb ∧ s7 = .slice (some ⟨g, 0, none⟩) j cap ∧ s17 = .int .i64 j ∧ j ≤ m ∧ m - j ≤ kx ∧ mb ≤ n + j ∧
    Hid ((L, asc U) = bagRun ([], asc xs) (os.take j)) ∧ Hid (SB 3 w wr gb mb cb g j cap U L))
  case atStart => exact ⟨0, n, g2, cap2, w2.heap.size, 0, xs, [], rfl, rfl, rfl, Nat.zero_le _, by omega, by omega, rfl, HST0.out⟩
  case round =>
    obtain ⟨j, mb, gb, cb, g, cap, U, L, rfl, rfl, rfl, hj, hjk, hmb, HR, HS⟩ := hrel
    clear HST0
    obtain ⟨hbB, hbl, hmc, hcb, hgB, hgl, hlc, hcap, hszw⟩ := HS.out.lt
    unfold maxLen at hcap hcb
    by_cases hlt : j < m
    · obtain ⟨op, v, hx⟩ : ∃ op v, os[j]? = some (op, v) := ⟨_, _, List.getElem?_eq_getElem (by rw [← HY.out]; exact hlt)⟩
      obtain ⟨b3, off3, rfl, hc0, hc1', hbl'⟩ := (HRB.out.below HS.out.2.2.2.2.2).at hx
      have HST := Lib.hid (bagRun_take (s := ([], asc xs)) hx)
      rw [← HR.out] at HST
      clear hx
      obtain ⟨t, ht⟩ : ∃ t, t = op % 4 := ⟨_, rfl⟩
      have ht0 : 0 ≤ t := by rw [ht]; exact Int.emod_nonneg _ (by decide)
      have ht4 : t < 4 := by rw [ht]; exact Int.emod_lt_of_pos _ (by decide)
      have HT := Lib.hid ht
      clear ht
      go_wp2_with fail
      refine (specAt_any op 4 _ (by omega) (by omega)).mono ?_
      rw [← HT.out]
      rintro e w' ⟨rfl, rfl⟩
      obtain ⟨W, hW⟩ : ∃ W, W = wr.alloc (.cells #[.int .i64 op, .int .i64 v] 43) := ⟨_, rfl⟩
      have hbA : Below wr.heap.size wr W := by rw [hW]; exact (Below.refl _ _).alloc (Nat.le_refl _) _
      have HS2 := Lib.hid (HS.out.below hbA)
      obtain ⟨bs, hbs⟩ : ∃ bs, bs = wr.heap.size := ⟨_, rfl⟩
      have hv : W.cell? ⟨bs, 1, none⟩ = some (.int .i64 v) := by rw [hW, hbs]; simp [go_sem]
      have hsW : bs < W.heap.size := by rw [hW, hbs]; simp
      rw [← hW, ← hbs]
      rw [← hbs] at hbl hgl hszw
      have hgn : ¬ g = bs := by omega
      have hgbn : ¬ gb = bs := by omega
      clear HS hbA hW hbs hc0 hc1'
      have HMB := Lib.hid HS2.out.2.1
      obtain h | h | h | h : t = 0 ∨ t = 1 ∨ t = 2 ∨ t = 3 := by omega
      · subst h
        clear ht0 ht4
        go_wp2_with fail
        refine (less_any _ U v _ HS2.out.1.ro (by rw [HMB.out]; omega)).mono ?_
        obtain ⟨i, hi⟩ : ∃ i, i = U.countP (fun y => decide (y < v)) := ⟨_, rfl⟩
        rw [← hi]
        rintro e w3 ⟨rfl, rfl⟩
        have HI := Lib.hid hi
        clear hi
        go_wp2_with (at_builtin; first
          | (refine wpList_app _ rfl (.tmp 26) (.tmp 31) rfl ints_ok w.heap.size g j cap (L.map (Value.int .i64)) (by rfl) (HS2.out.rowL.alloc _) _ 1 1 [.int .i64 (i : Int)] (by rfl) (Src.one _ _ _) (by unfold maxLen; omega) (by omega) (by simp; omega) (j + 1) rfl _ rfl ?_; intro g5 cap5 w5 hown5 hgrow5 hat5; have cc := hgrow5.cell (a := ⟨bs, 1, none⟩) ((World.cell?_alloc_lt _ _ _ (by show bs < _; omega)).trans hv) (fun e => by injection e with e; exact hgn e.symm); have HS5 := Lib.hid (HS2.out.told hown5 hgrow5 hat5); have hl5 := HS5.out.lt; clear hown5 hgrow5 hat5)
          | (refine wpList_app _ rfl (.tmp 33) (.tmp 36) rfl ints_ok w.heap.size gb mb cb (U.map (Value.int .i64)) (by rfl) (HS5.out.rowU.alloc _) _ 1 1 [.int .i64 v] (by rfl) (Src.one _ _ _) (by unfold maxLen; omega) (by omega) (by simp; omega) (mb + 1) rfl _ rfl ?_; intro g6 cap6 w6 hown6 hgrow6 hat6))
        have HS6 := Lib.hid (HS5.out.put hown6 hgrow6 hat6)
        clear hown6 hgrow6 hat6 cc hl5
        go_wp2_with fail
        go_roundg (m - (j + 1))
        case measure => omega
        case rel => exact ⟨j + 1, mb + 1, g6, cap6, g5, cap5, U ++ [v], L ++ [(i : Int)], rfl, rfl, by go_num, by omega, by omega, by omega, (by show (L ++ [(i : Int)], asc (U ++ [v])) = _; rw [HST.out, bag_step0 HT.out.symm, HI.out]), HS6.out⟩
      · subst h
        clear ht0 ht4
        go_wp2_with fail
        refine (without_some _ U v _ HS2.out.1.ro (by rw [HMB.out]; omega)).mono ?_
        rintro e w3 ⟨g7, k7, cap7, rfl, ho7, hb7⟩
        have HS7 := Lib.hid (HS2.out.fresh hb7 ho7)
        obtain ⟨lt1, lt2, lt3, lt4, lt5⟩ := own_lt ho7
        have hle : k7 ≤ mb := by rw [← lt3, ← HMB.out]; exact List.length_erase_le
        unfold maxLen at lt5
        have hs7 := hb7.size
        have HK7 := Lib.hid lt3
        clear ho7 hb7 lt3
        go_wp2_with (at_builtin; refine wpList_app _ rfl (.tmp 46) (.tmp 51) rfl ints_ok w.heap.size g j cap (L.map (Value.int .i64)) (by rfl) (HS7.out.rowL.alloc _) _ 1 1 [.int .i64 ((mb : Int) - (k7 : Int))] (by rfl) (Src.one _ _ _) (by unfold maxLen; omega) (by omega) (by simp; omega) (j + 1) rfl _ rfl ?_; intro g5 cap5 w5 hown5 hgrow5 hat5)
        have HS5 := Lib.hid (HS7.out.told hown5 hgrow5 hat5)
        clear hown5 hgrow5 hat5
        go_wp2_with fail
        go_roundg (m - (j + 1))
        case measure => omega
        case rel => exact ⟨j + 1, k7, g7, cap7, g5, cap5, U.erase v, L ++ [(mb : Int) - (k7 : Int)], rfl, rfl, by go_num, by omega, by omega, by omega, (by show (L ++ [(mb : Int) - (k7 : Int)], asc (U.erase v)) = _; rw [HST.out, bag_step1 HT.out.symm, HMB.out, HK7.out]), HS5.out⟩
      · subst h
        clear ht0 ht4
        go_wp2_with fail
        refine (less_any _ U v _ HS2.out.1.ro (by rw [HMB.out]; omega)).mono ?_
        obtain ⟨i, hi⟩ : ∃ i, i = U.countP (fun y => decide (y < v)) := ⟨_, rfl⟩
        rw [← hi]
        rintro e w3 ⟨rfl, rfl⟩
        have HI := Lib.hid hi
        clear hi
        go_wp2_with (at_builtin; refine wpList_app _ rfl (.tmp 55) (.tmp 60) rfl ints_ok w.heap.size g j cap (L.map (Value.int .i64)) (by rfl) (HS2.out.rowL.alloc _) _ 1 1 [.int .i64 (i : Int)] (by rfl) (Src.one _ _ _) (by unfold maxLen; omega) (by omega) (by simp; omega) (j + 1) rfl _ rfl ?_; intro g5 cap5 w5 hown5 hgrow5 hat5)
        have HS5 := Lib.hid (HS2.out.told hown5 hgrow5 hat5)
        clear hown5 hgrow5 hat5
        go_wp2_with fail
        go_roundg (m - (j + 1))
        case measure => omega
        case rel => exact ⟨j + 1, mb, gb, cb, g5, cap5, U, L ++ [(i : Int)], rfl, rfl, by go_num, by omega, by omega, by omega, (by show (L ++ [(i : Int)], asc U) = _; rw [HST.out, bag_step2 HT.out.symm, HI.out]), HS5.out⟩
      · subst h
        clear ht0 ht4
        rcases Nat.eq_zero_or_pos mb with h0 | h0
        · subst h0
          have HB := Lib.hid (show U = [] from List.eq_nil_of_length_eq_zero HMB.out)
          go_wp2_with (at_builtin; refine wpList_app _ rfl (.tmp 67) (.tmp 68) rfl ints_ok w.heap.size g j cap (L.map (Value.int .i64)) (by rfl) (HS2.out.rowL.alloc _) _ 1 1 [.int .i64 0] (by rfl) (Src.one _ _ _) (by unfold maxLen; omega) (by omega) (by simp; omega) (j + 1) rfl _ rfl ?_; intro g5 cap5 w5 hown5 hgrow5 hat5)
          have HS5 := Lib.hid (HS2.out.told hown5 hgrow5 hat5)
          clear hown5 hgrow5 hat5
          go_wp2_with fail
          go_roundg (m - (j + 1))
          case measure => omega
          case rel => exact ⟨j + 1, 0, gb, cb, g5, cap5, U, L ++ [0], rfl, rfl, by go_num, by omega, by omega, by omega, (by show (L ++ [0], asc U) = _; rw [HST.out, bag_step3 HT.out.symm, HB.out, asc_short (by simp)]; rfl), HS5.out⟩
        · have hpos : (0 : Int) < (mb : Int) := by omega
          have hne0 : ¬ (mb : Int) = 0 := by omega
          have hne1 : ¬ mb = 0 := by omega
          obtain ⟨q, hq⟩ : ∃ q : Nat, (q : Int) = v % (mb : Int) := ⟨(v % (mb : Int)).toNat, by have := Int.emod_nonneg v (show (mb : Int) ≠ 0 by omega); omega⟩
          have hqm : q < mb := by have := Int.emod_lt_of_pos v (show (0 : Int) < (mb : Int) by omega); omega
          obtain ⟨y, hy⟩ : ∃ y, (asc U)[q]? = some y := ⟨_, List.getElem?_eq_getElem (by rw [asc_len, HMB.out]; exact hqm)⟩
          have HY2 := Lib.hid (show (asc U).getD (v % (U.length : Int)).toNat 0 = y by rw [HMB.out, ← hq, show ((q : Int)).toNat = q from rfl, List.getD_eq_getElem?_getD, hy]; rfl)
          have HQ := Lib.hid hq
          have HYY := Lib.hid hy
          clear hy hq
          have z0 : (0 : Int) ≤ (q : Int) := by omega
          have z1 : (q : Int) < (mb : Int) := by omega
          have HRU := Lib.hid (HS2.out.1.ro.below (Below.refl W.heap.size W).drew)
          have HSD := Lib.hid (HS2.out.below (Below.refl W.heap.size W).drew)
          have hvD : W.drew.cell? ⟨bs, 1, none⟩ = some (.int .i64 v) := hv
          have hsD : bs < W.drew.heap.size := hsW
          go_wp2_with fail
          go_region_law ((first
            | (refine step_app _ (by rfl) (.tmp 70) (.tmp 80) (by rfl) ints_ok w.heap.size g j cap _ (by rfl) (HS3.out.rowL.alloc _) _ 1 1 [.int .i64 y] (by rfl) (Src.one_at _ _ _ _ (by simp)) (by unfold maxLen; omega) (by omega) (by have := HS3.out.lt; simp; omega) (j + 1) rfl _ rfl ?_; intro g5 cap5 w5 hown5 hgrow5 hat5)
            | (go_simp; go_at_call 52; refine (specAsc_at _ U mb q y _ HRU.out HMB.out (by omega) hqm HYY.out).mono ?_; rintro e w3 ⟨g3, c3, rfl, hc3, hcy, hb3⟩; have hv3 := (hb3.cell (p := ⟨bs, 1, none⟩) hsD).trans hvD; have HS3 := Lib.hid (HSD.out.below hb3); clear hb3)
            | (go_simp; go_at_call 12; refine (specAt_any v (mb : Int) _ (by omega) (by omega)).mono ?_; rintro e w' ⟨rfl, rfl⟩; rw [← HQ.out])))
          all_goals
            have HS5 := Lib.hid (HS3.out.told hown5 hgrow5 hat5)
            clear hown5 hgrow5 hat5
            go_wp2_with fail
            go_roundg (m - (j + 1))
            case measure => omega
            case rel => exact ⟨j + 1, mb, gb, cb, g5, cap5, U, L ++ [y], rfl, rfl, by go_num, by omega, by omega, by omega, (by show (L ++ [y], asc U) = _; rw [HST.out, bag_step3 HT.out.symm, HY2.out]), HS5.out⟩
    · obtain rfl : j = m := by omega
      have hfin : (L, asc U) = bagRun ([], asc xs) os := by
        rw [HR.out, List.take_of_length_le (by rw [← HY.out]; exact Nat.le_refl _)]
      have HF := Lib.hid hfin
      clear hfin
      go_wp2_with fail
      refine (specAscending_any _ U _ HS.out.1.ro (by rw [HS.out.2.1]; omega)).mono ?_
      rintro e w3 ⟨v3, rfl, ho3, hb3⟩
      have HO3 := Lib.hid ho3
      have HS3 := Lib.hid (HS.out.below hb3)
      have HLT := Lib.hid (World.ownsRow.lt ho3)
      clear ho3 hb3
      go_wp2_with fail
      go_ret2
      refine ⟨_, _, rfl, ?_, ?_, fun k h1 h2 => ?_, HS3.out.2.2.2.2.2⟩
      · rw [← HF.out]; exact HS3.out.2.2.1
      · rw [← HF.out]; exact HO3.out.mono (by omega)
      · simp [Value.ownBlock] at h1
        have := (HLT.out k h2).1
        omega

end Go.Proofs.Ytpkdjdofbedncaa

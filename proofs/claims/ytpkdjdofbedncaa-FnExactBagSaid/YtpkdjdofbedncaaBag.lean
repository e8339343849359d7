/-
  What is proved here: the contract of Bag of the thin package: it returns what the orders tell and the ascending list; condition: at most 2^42 numbers and orders in all.
-/
import Derived.Test.YtpkdjdofbedncaaFind
import Derived.Test.YtpkdjdofbedncaaAsc
import Derived.Test.YtpkdjdofbedncaaMemK
import Derived.Test.YtpkdjdofbedncaaInsA
import Derived.Test.YtpkdjdofbedncaaBagPlain
import Derived.Test.YtpkdjdofbedncaaUnite
import Derived.Deep.RegionLaw
namespace Go.Proofs.Ytpkdjdofbedncaa
open Go.RowKit
set_option linter.unusedVariables false

/-- What Bag has made: two new slices apart from each other; nothing old has changed. -/
def MadeB (E : TypeId) (r : List Int × List Int) (w : World) (e : Ending) (w' : World) : Prop :=
  ∃ v1 v2, e = .returned (.tuple #[v1, v2]) ∧ Own E w.heap.size w' v1 r.1 ∧ Own E w.heap.size w' v2 r.2 ∧ (∀ k, v1.ownBlock = some k → v2.ownBlock = some k → False) ∧ Below w.heap.size w w'

/-- The same, both not nil. -/
def MadeBS (E : TypeId) (r : List Int × List Int) (w : World) (e : Ending) (w' : World) : Prop :=
  ∃ g k cap g' k' cap', e = .returned (.tuple #[.slice (some ⟨g, 0, none⟩) k cap, .slice (some ⟨g', 0, none⟩) k' cap']) ∧ Own E w.heap.size w' (.slice (some ⟨g, 0, none⟩) k cap) r.1 ∧ Own E w.heap.size w' (.slice (some ⟨g', 0, none⟩) k' cap') r.2 ∧ g ≠ g' ∧ Below w.heap.size w w'
theorem MadeBS.made {E : TypeId} {r : List Int × List Int} {w w' : World} {e : Ending} (h : MadeBS E r w e w') : MadeB E r w e w' := by
  obtain ⟨g, k, cap, g', k', cap', h1, h2, h3, h4, h5⟩ := h
  refine ⟨_, _, h1, h2, h3, fun k h6 h7 => ?_, h5⟩
  simp [Value.ownBlock] at h6 h7
  omega

theorem keepB {w1 w' : World} {b : Addr} {v : Value} (h2 : w1.cell? b = some v) (hb : Below w1.heap.size w1 w') : w'.cell? b = some v ∧ Below w1.heap.size w1 w' :=
  ⟨(hb.cell (World.block_lt_of_cell? _ _ h2)).trans h2, hb⟩

/-- What the loop holds. -/
def BagSt (E : TypeId) (B g0 : Nat) (w4 wr : World) (gb m cb g k cap : Nat) (bag L : List Int) : Prop :=
  Own E B wr (.slice (some ⟨gb, 0, none⟩) m cb) bag ∧ Asc bag ∧ bag.length = m ∧ gb ≠ g ∧ Out E B g0 w4 wr g k cap L
theorem BagSt.below {E : TypeId} {B g0 : Nat} {w4 wr w2 : World} {gb m cb g k cap : Nat} {bag L : List Int} (h : BagSt E B g0 w4 wr gb m cb g k cap bag L) (hb : Below wr.heap.size wr w2) : BagSt E B g0 w4 w2 gb m cb g k cap bag L :=
  ⟨h.1.below hb, h.2.1, h.2.2.1, h.2.2.2.1, h.2.2.2.2.below hb⟩
theorem BagSt.told {E : TypeId} {B g0 : Nat} {w4 wr w5 : World} {gb m cb g k cap g5 cap5 : Nat} {bag L : List Int} {x : Int} {o : Obj} (h : BagSt E B g0 w4 wr gb m cb g k cap bag L)
    (hown : w5.ownsRow B E 1 (.slice (some ⟨g5, 0, none⟩) (k + 1) cap5) (k + 1) (L.map (Value.int .i64) ++ [.int .i64 x])) (hg : (wr.alloc o).grownBy w5 (some g)) (hat : g5 = g ∨ g5 = (wr.alloc o).heap.size) :
    BagSt E B g0 w4 w5 gb m cb g5 (k + 1) cap5 bag (L ++ [x]) := by
  obtain ⟨h1, h2, h3, h4, h5⟩ := h
  refine ⟨World.ownsRow.kept (World.ownsRow.alloc h1 o) hg (.inr (by simp [Value.ownBlock]; exact h4)), h2, h3, ?_, h5.app hown hg hat⟩
  have hlt := (own_lt h1).2.1
  rcases hat with e | e
  · omega
  · simp at e; omega
theorem BagSt.fresh {E : TypeId} {B g0 : Nat} {w4 wr w2 : World} {gb m cb g k cap gb2 m2 cb2 : Nat} {bag L bag2 : List Int} (h : BagSt E B g0 w4 wr gb m cb g k cap bag L) (hb : Below wr.heap.size wr w2)
    (hown : w2.ownsRow wr.heap.size E 1 (.slice (some ⟨gb2, 0, none⟩) m2 cb2) m2 (bag2.map (Value.int .i64))) (hl : bag2.length = m2) (ha : Asc bag2) (hB : B ≤ wr.heap.size) : BagSt E B g0 w4 w2 gb2 m2 cb2 g k cap bag2 L := by
  obtain ⟨h1, h2, h3, h4, h5⟩ := h
  have hgl := h5.lt.2.1
  refine ⟨(own_ro hown hl).mono hB, ha, hl, ?_, h5.below hb⟩
  have := (hown.lt gb2 rfl).1
  omega

set_option maxRecDepth 100000 in
set_option maxHeartbeats 8000000 in
theorem bag_some (va vb : Value) (xs : List Int) (os : List (Int × Int)) (w : World) (ha : Ro w va xs) (hb : Ros2 w vb os) (hn : xs.length + os.length ≤ 4398046511104) :
    Calls Try.prog 26 #[va, vb] w (MadeBS 3 (bagRun ([], asc xs) os) w) := by
  have HRA := Lib.hid ha
  have HRB := Lib.hid hb
  obtain ⟨A1, c1, b1, off1, rfl, hnc1, hcm1, -, -⟩ := hb.shape
  obtain ⟨n, hxn⟩ : ∃ n, n = xs.length := ⟨_, rfl⟩
  obtain ⟨m, hym⟩ : ∃ m, m = os.length := ⟨_, rfl⟩
  rw [← hym] at HRB hnc1 ⊢
  rw [← hxn, ← hym] at hn
  have HX := Lib.hid hxn
  have HY := Lib.hid hym
  clear hxn hym ha hb
  unfold maxLen at hcm1
  go_enter Try.func26, Try.ntmps26
  go_wp2_with fail
  refine (ascending_some _ xs _ HRA.out (by rw [← HX.out]; omega)).mono ?_
  rw [← HX.out]
  rintro e w1 ⟨gb0, cb0, rfl, ho1, hb1⟩
  have hs1 := hb1.size
  have hlt1 := own_lt ho1
  have hst0 : BagSt 3 w.heap.size w1.heap.size (w1.alloc (.cells #[] 3)) (w1.alloc (.cells #[] 3)) gb0 n cb0 w1.heap.size 0 0 (asc xs) [] :=
    ⟨ho1.below ((Below.refl _ _).alloc (Nat.le_refl _) _), asc_asc _, by rw [asc_len, HX.out], by omega, Out.start (ownE (e := 3) (size := 1) w1 hs1)⟩
  have HST0 := Lib.hid hst0
  have hbw : Below w.heap.size w (w1.alloc (.cells #[] 3)) := hb1.alloc hs1 _
  clear ho1 hst0 hlt1
  go_wp2_with fail
  go_loopg [6, 7, 16] m (fun kx s6 s7 s16 wr => ∃ (j mb gb cb g cap : Nat) (bag L : List Int), s6 = .slice (some ⟨gb, 0, none⟩) mb cb ∧ s7 = .slice (some ⟨g, 0, none⟩) j cap ∧ s16 = .int .i64 j ∧ j ≤ m ∧ m - j ≤ kx ∧ mb ≤ n + j ∧
    Hid ((L, bag) = bagRun ([], asc xs) (os.take j)) ∧ Hid (BagSt 3 w.heap.size w1.heap.size (w1.alloc (.cells #[] 3)) wr gb mb cb g j cap bag L))
  case atStart => exact ⟨0, n, gb0, cb0, w1.heap.size, 0, asc xs, [], rfl, rfl, rfl, Nat.zero_le _, by omega, by omega, rfl, HST0.out⟩
  case round =>
    obtain ⟨j, mb, gb, cb, g, cap, bag, L, rfl, rfl, rfl, hj, hjk, hmb, HR, HS⟩ := hrel
    clear HST0
    obtain ⟨hgB, hgl, hlc, hcap, hsz⟩ := HS.out.2.2.2.2.lt
    obtain ⟨hbB, hbl, hml, hmc, hcb⟩ := own_lt HS.out.1
    clear hml
    unfold maxLen at hcap hcb
    have hszw : w.heap.size ≤ wr.heap.size := by simp at hsz; omega
    by_cases hlt : j < m
    · obtain ⟨op, v, hx⟩ : ∃ op v, os[j]? = some (op, v) := ⟨_, _, List.getElem?_eq_getElem (by rw [← HY.out]; exact hlt)⟩
      obtain ⟨b, off, rfl, hc0, hc1', hbl'⟩ := (HRB.out.below (HS.out.2.2.2.2.belowW hbw hs1)).at hx
      have HST := Lib.hid (bagRun_take (s := ([], asc xs)) hx)
      rw [← HR.out] at HST
      clear hx
      obtain ⟨t, ht⟩ : ∃ t, t = op % 4 := ⟨_, rfl⟩
      have ht0 : 0 ≤ t := by rw [ht]; exact Int.emod_nonneg _ (by decide)
      have ht4 : t < 4 := by rw [ht]; exact Int.emod_lt_of_pos _ (by decide)
      have HT := Lib.hid ht
      clear ht
      go_wp2_with fail
      refine (searchInts_any _ bag v _ (Ro.below HS.out.1.ro ((Below.refl _ _).alloc (Nat.le_refl _) _)) HS.out.2.1 (by rw [HS.out.2.2.1]; omega)).mono ?_
      rw [show bag.countP (fun y => decide (y < v)) = lessN bag v from rfl]
      obtain ⟨i, hi⟩ : ∃ i, i = lessN bag v := ⟨_, rfl⟩
      rw [← hi]
      rintro e w2 ⟨rfl, hb2⟩
      have him : i ≤ mb := by have h := lessN_le bag v; rw [HS.out.2.2.1, ← hi] at h; exact h
      have HI := Lib.hid hi
      clear hi
      have hv2 : w2.cell? ⟨wr.heap.size, 1, none⟩ = some (.int .i64 v) := (hb2.cell (p := ⟨wr.heap.size, 1, none⟩) (by simp)).trans (by simp [go_sem])
      have ho2 : w2.cell? ⟨wr.heap.size, 0, none⟩ = some (.int .i64 op) := (hb2.cell (p := ⟨wr.heap.size, 0, none⟩) (by simp)).trans (by simp [go_sem])
      have hbx : Below wr.heap.size wr w2 := ((Below.refl _ _).alloc (Nat.le_refl _) _).trans (hb2.mono (by simp))
      have hs2 : wr.heap.size ≤ w2.heap.size := hbx.size
      have HS2 := Lib.hid (HS.out.below hbx)
      clear HS hbx hb2 hc0 hc1'
      go_wp2_with fail
      refine (at_any op 4 _ (by omega) (by omega)).mono ?_
      rw [← HT.out]
      rintro e w' ⟨rfl, rfl⟩
      obtain h | h | h | h : t = 0 ∨ t = 1 ∨ t = 2 ∨ t = 3 := by omega
      · subst h
        clear ht0 ht4
        have z0 : (0 : Int) ≤ (i : Int) := by omega
        have z1 : (i : Int) ≤ (mb : Int) := by omega
        have z2 : (i : Int) ≤ (cb : Int) := by omega
        have z3 : (mb : Int) ≤ (cb : Int) := by omega
        have hs1' : ∀ W, Below w2.heap.size w2 W → Src W 1 (some ⟨gb, 0, none⟩) i ((bag.take i).map (Value.int .i64)) := fun W h => src_take (HS2.out.1.below h) i (by rw [HS2.out.2.2.1]; exact him)
        have hs2' : ∀ W, Below w2.heap.size w2 W → Src W 1 (if cb = i then some ⟨gb, 0, none⟩ else some ⟨gb, i, none⟩) (mb - i) ((bag.drop i).map (Value.int .i64)) := fun W h => by
          have := src_drop (HS2.out.1.below h) i (by rw [HS2.out.2.2.1]; exact him)
          rwa [HS2.out.2.2.1] at this
        have HSA := Lib.hid hs1'
        have HSB := Lib.hid hs2'
        clear hs1' hs2'
        go_wp2_with fail
        refine wp_region_Z 13 (fun w' => w'.cell? ⟨wr.heap.size, 1, none⟩ = some (.int .i64 v) ∧ Below w2.heap.size w2 w') (by kernel_rfl) ?_
        have hS0 := keepB hv2 (Below.refl w2.heap.size w2).drew
        refine wpAnyZ_take (i := 1) (v := .slice (some ⟨gb, 0, none⟩) mb cb) rfl (by kernel_rfl) (by kernel_rfl) (by kernel_rfl) (by kernel_rfl) (fun _ _ _ h => h) (.inl ⟨rfl, fun w' h => ?y1⟩) hS0 ?_
        case y1 =>
          obtain ⟨e1, e2⟩ := h
          go_simp
        refine wpAnyZ_take (i := 2) (v := .int .i64 i) rfl (by kernel_rfl) (by kernel_rfl) (by kernel_rfl) (by kernel_rfl) (fun _ _ _ h => h) (.inl ⟨rfl, fun w' h => ?y2⟩) hS0 ?_
        case y2 =>
          obtain ⟨e1, e2⟩ := h
          go_simp
        refine wpAnyZ_take (i := 3) (v := .slice (some ⟨gb, 0, none⟩) i cb) rfl (by kernel_rfl) (by kernel_rfl) (by kernel_rfl) (by kernel_rfl) (fun _ _ _ h => h) (.inl ⟨rfl, fun w' h => ?y3⟩) hS0 ?_
        case y3 =>
          obtain ⟨e1, e2⟩ := h
          go_simp
        refine wpAnyZ_take (i := 5) (v := .pointer (some ⟨wr.heap.size, 1, none⟩)) rfl (by kernel_rfl) (by kernel_rfl) (by kernel_rfl) (by kernel_rfl) (fun _ _ _ h => h) (.inl ⟨rfl, fun w' h => ?y5⟩) hS0 ?_
        case y5 =>
          obtain ⟨e1, e2⟩ := h
          go_simp
        refine wpAnyZ_take (i := 6) (v := .int .i64 v) rfl (by kernel_rfl) (by kernel_rfl) (by kernel_rfl) (by kernel_rfl) (fun _ _ _ h => h) (.inl ⟨rfl, fun w' h => ?y6⟩) hS0 ?_
        case y6 =>
          obtain ⟨e1, e2⟩ := h
          go_simp
        refine wpAnyZ_take (i := 9) (v := .slice (some ⟨gb, 0, none⟩) mb cb) rfl (by kernel_rfl) (by kernel_rfl) (by kernel_rfl) (by kernel_rfl) (fun _ _ _ h => h) (.inl ⟨rfl, fun w' h => ?y9⟩) hS0 ?_
        case y9 =>
          obtain ⟨e1, e2⟩ := h
          go_simp
        refine wpAnyZ_take (i := 10) (v := .int .i64 i) rfl (by kernel_rfl) (by kernel_rfl) (by kernel_rfl) (by kernel_rfl) (fun _ _ _ h => h) (.inl ⟨rfl, fun w' h => ?y10⟩) hS0 ?_
        case y10 =>
          obtain ⟨e1, e2⟩ := h
          go_simp
        refine wpAnyZ_take (i := 11) (v := .slice (if cb = i then some ⟨gb, 0, none⟩ else some ⟨gb, i, none⟩) (mb - i) (cb - i)) rfl (by kernel_rfl) (by kernel_rfl) (by kernel_rfl) (by kernel_rfl) (fun _ _ _ h => h) (.inl ⟨rfl, fun w' h => ?y11⟩) hS0 ?_
        case y11 =>
          obtain ⟨e1, e2⟩ := h
          go_simp
        refine ina_six (w1 := w2) (c1 := cb) (c2 := cb - i) (i := i) (x := v) (m2 := mb - i) (d0 := 29) (d1 := 33) (d2 := 36) (d3 := 37) (d4 := 41) (d5 := 6) (s1 := 32) (s2 := 35) (s4 := 40) (i0 := 0) (i1 := 4) (i2 := 7) (i3 := 8) (i4 := 12)
          ⟨rfl, rfl, rfl, rfl, rfl, rfl, ⟨rfl, rfl, rfl, rfl, rfl, rfl⟩, rfl, rfl, rfl, rfl, rfl, rfl, ⟨rfl, rfl, rfl, rfl, rfl, rfl⟩⟩ ints_ok (by kernel_rfl) (by kernel_rfl) (by kernel_rfl) (by kernel_rfl) (by kernel_rfl) (by kernel_rfl) (by kernel_rfl) (by kernel_rfl) (by kernel_rfl)
          (by decide) (by decide) (by decide) (by decide) (by simp [size_put]) (by simp [size_put]) (by simp [size_put]) (by simp [size_put]) (by simp [size_put]) (fun W' h => keepB hv2 h) ?e1 ?e2 ?e4 (fun W' h => HSA.out W' h) (fun W' h => HSB.out W' h) (by omega) ?_
        case e1 => go_simp
        case e2 => go_simp
        case e4 => go_simp
        intro g3 cap3 v0 v1 v2 v3 w4 hown3 hb4
        have hs4 := hb4.size
        have hn3 : i + 1 + (mb - i) = mb + 1 := by omega
        rw [hn3] at hown3
        have HS4 := Lib.hid (HS2.out.fresh (bag2 := bag.take i ++ [v] ++ bag.drop i) (m2 := mb + 1) hb4 (by simpa using hown3) (by have := HS2.out.2.2.1; simp; omega) (by rw [HI.out]; exact asc_ins HS2.out.2.1 v) (by omega))
        clear hown3 hb4 hS0 z0 z1 z2 z3
        try rw [hn3]
        go_wp2_with (at_builtin; refine wpList_app _ rfl (.tmp 42) (.tmp 44) rfl ints_ok w.heap.size g j cap (L.map (Value.int .i64)) (by rfl) (HS4.out.2.2.2.2.row.alloc _) _ 1 1 [.int .i64 (i : Int)] (by rfl) (Src.one _ _ _) (by unfold maxLen; omega) (by omega) (by simp; omega) (j + 1) rfl _ rfl ?_; intro g5 cap5 w5 hown5 hgrow5 hat5)
        all_goals have HS5 := Lib.hid (HS4.out.told hown5 hgrow5 hat5)
        all_goals clear hown5 hgrow5 hat5
        all_goals go_wp2_with fail
        all_goals go_roundg (m - (j + 1))
        all_goals first | omega | skip
        all_goals exact ⟨j + 1, mb + 1, g3, cap3, g5, cap5, bag.take i ++ [v] ++ bag.drop i, L ++ [(i : Int)], rfl, rfl, by go_num, by omega, by omega, by omega, (by show (L ++ [(i : Int)], bag.take i ++ [v] ++ bag.drop i) = _; rw [HST.out, bagStep0 HT.out.symm, HI.out]), HS5.out⟩
      · subst h
        clear ht0 ht4
        go_wp2_with fail
        refine (found_any _ bag v _ HS2.out.1.ro HS2.out.2.1 (by rw [HS2.out.2.2.1]; omega)).mono ?_
        by_cases hmem : v ∈ bag
        · rw [decide_eq_true hmem]
          rintro e w3 ⟨rfl, hb3⟩
          have HM := Lib.hid hmem
          have hil : i < mb := by have h := lessN_lt hmem; rw [← HI.out, HS2.out.2.2.1] at h; exact h
          have HS3 := Lib.hid (HS2.out.below hb3)
          have hs3 := hb3.size
          clear hmem hb3 HS2
          have z0 : (0 : Int) ≤ (i : Int) := by omega
          have z1 : (i : Int) ≤ (mb : Int) := by omega
          have z2 : (i : Int) ≤ (cb : Int) := by omega
          have z3 : (mb : Int) ≤ (cb : Int) := by omega
          have z4 : (0 : Int) ≤ (i : Int) + 1 := by omega
          have z5 : (i : Int) + 1 ≤ (mb : Int) := by omega
          have z6 : (i : Int) + 1 ≤ (cb : Int) := by omega
          have y5 : ((i : Int) + 1).toNat = i + 1 := by omega
          have y6 : IntKind.i64.wrap ((i : Int) + 1) = (i : Int) + 1 := IntWalk.i64_in _ (by omega)
          have HSA := Lib.hid (src_take HS3.out.1 i (by rw [HS3.out.2.2.1]; omega))
          have hsb := src_drop HS3.out.1 (i + 1) (by rw [HS3.out.2.2.1]; omega)
          rw [HS3.out.2.2.1] at hsb
          have HSB := Lib.hid hsb
          clear hsb
          go_wp2_with fail
          go_region_law ((first
            | (refine step_app _ (by rfl) (.tmp 52) (.tmp 55) (by rfl) ints_ok w3.heap.size w3.heap.size 0 0 [] (by go_simp) ((ownE w3 (Nat.le_refl _)).drew) (some ⟨gb, 0, none⟩) i cb ((bag.take i).map (Value.int .i64)) (by go_simp) ((HSA.out.alloc _).drew) (by unfold maxLen; omega) (by omega) (by simp) i (by omega) _ rfl ?_; intro g6 cap6 w6 hown6 hgrow6 hat6)
            | (refine step_app _ (by rfl) (.tmp 56) (.tmp 60) (by rfl) ints_ok w3.heap.size g6 i cap6 _ (by go_simp) hown6 (if cb = i + 1 then some ⟨gb, 0, none⟩ else some ⟨gb, i + 1, none⟩) (mb - (i + 1)) (cb - (i + 1)) ((bag.drop (i + 1)).map (Value.int .i64)) (by go_simp) (HSB.out.below (below_app hgrow6 (Nat.le_refl _) ((Below.refl _ _).drew.alloc (Nat.le_refl _) _))) (by unfold maxLen; omega) (by omega) (by have := hgrow6.size; simp at this; omega) (mb - 1) (by omega) _ rfl ?_; intro g7 cap7 w7 hown7 hgrow7 hat7)))
          clear y5 y6
          have hb6 : Below w3.heap.size w3 w6 := below_app hgrow6 (Nat.le_refl _) ((Below.refl _ _).drew.alloc (Nat.le_refl _) _)
          have hb7 : Below w3.heap.size w3 w7 := below_app hgrow7 (by rcases hat6 with h | h <;> (try simp at h) <;> omega) hb6
          have hs7 := hb7.size
          have HS7 := Lib.hid (HS3.out.fresh (bag2 := bag.take i ++ bag.drop (i + 1)) (m2 := mb - 1) hb7 (by simpa using hown7) (by have := HS3.out.2.2.1; simp; omega) (asc_del HS3.out.2.1 i) (by omega))
          clear hown6 hgrow6 hat6 hown7 hgrow7 hat7 hb6 hb7 HS3 z0 z1 z2 z3 z4 z5 z6
          go_wp2_with (at_builtin; refine wpList_app _ rfl (.tmp 62) (.tmp 63) rfl ints_ok w.heap.size g j cap (L.map (Value.int .i64)) (by rfl) (HS7.out.2.2.2.2.row.alloc _) _ 1 1 [.int .i64 1] (by rfl) (Src.one _ _ _) (by unfold maxLen; omega) (by omega) (by simp; omega) (j + 1) rfl _ rfl ?_; intro g5 cap5 w5 hown5 hgrow5 hat5)
          all_goals have HS5 := Lib.hid (HS7.out.told hown5 hgrow5 hat5)
          all_goals clear hown5 hgrow5 hat5
          all_goals go_wp2_with fail
          all_goals go_roundg (m - (j + 1))
          all_goals first | omega | skip
          all_goals exact ⟨j + 1, mb - 1, g7, cap7, g5, cap5, bag.take i ++ bag.drop (i + 1), L ++ [1], rfl, rfl, by go_num, by omega, by omega, by omega, (by show (L ++ [1], bag.take i ++ bag.drop (i + 1)) = _; rw [HST.out, bagStep1y HT.out.symm HM.out, HI.out]), HS5.out⟩
        · rw [decide_eq_false hmem]
          rintro e w3 ⟨rfl, hb3⟩
          have HM := Lib.hid hmem
          have HS3 := Lib.hid (HS2.out.below hb3)
          have hs3 := hb3.size
          clear hmem hb3 HS2
          go_wp2_with (at_builtin; refine wpList_app _ rfl (.tmp 65) (.tmp 66) rfl ints_ok w.heap.size g j cap (L.map (Value.int .i64)) (by rfl) (HS3.out.2.2.2.2.row.alloc _) _ 1 1 [.int .i64 0] (by rfl) (Src.one _ _ _) (by unfold maxLen; omega) (by omega) (by simp; omega) (j + 1) rfl _ rfl ?_; intro g5 cap5 w5 hown5 hgrow5 hat5)
          have HS5 := Lib.hid (HS3.out.told hown5 hgrow5 hat5)
          clear hown5 hgrow5 hat5
          go_wp2_with fail
          go_roundg (m - (j + 1))
          case measure => omega
          case rel => exact ⟨j + 1, mb, gb, cb, g5, cap5, bag, L ++ [0], rfl, rfl, by go_num, by omega, by omega, by omega, (by show (L ++ [0], bag) = _; rw [HST.out, bagStep1n HT.out.symm HM.out]), HS5.out⟩
      · subst h
        clear ht0 ht4
        go_wp2_with (at_builtin; refine wpList_app _ rfl (.tmp 70) (.tmp 72) rfl ints_ok w.heap.size g j cap (L.map (Value.int .i64)) (by rfl) (HS2.out.2.2.2.2.row.alloc _) _ 1 1 [.int .i64 (i : Int)] (by rfl) (Src.one _ _ _) (by unfold maxLen; omega) (by omega) (by simp; omega) (j + 1) rfl _ rfl ?_; intro g5 cap5 w5 hown5 hgrow5 hat5)
        have HS5 := Lib.hid (HS2.out.told hown5 hgrow5 hat5)
        clear hown5 hgrow5 hat5
        go_wp2_with fail
        go_roundg (m - (j + 1))
        case measure => omega
        case rel => exact ⟨j + 1, mb, gb, cb, g5, cap5, bag, L ++ [(i : Int)], rfl, rfl, by go_num, by omega, by omega, by omega, (by show (L ++ [(i : Int)], bag) = _; rw [HST.out, bagStep2 HT.out.symm, HI.out]), HS5.out⟩
      · subst h
        clear ht0 ht4
        rcases Nat.eq_zero_or_pos mb with h0 | h0
        · subst h0
          have HB := Lib.hid (show bag = [] from List.eq_nil_of_length_eq_zero HS2.out.2.2.1)
          go_wp2_with (at_builtin; refine wpList_app _ rfl (.tmp 90) (.tmp 91) rfl ints_ok w.heap.size g j cap (L.map (Value.int .i64)) (by rfl) (HS2.out.2.2.2.2.row.alloc _) _ 1 1 [.int .i64 0] (by rfl) (Src.one _ _ _) (by unfold maxLen; omega) (by omega) (by simp; omega) (j + 1) rfl _ rfl ?_; intro g5 cap5 w5 hown5 hgrow5 hat5)
          have HS5 := Lib.hid (HS2.out.told hown5 hgrow5 hat5)
          clear hown5 hgrow5 hat5
          go_wp2_with fail
          go_roundg (m - (j + 1))
          case measure => omega
          case rel => exact ⟨j + 1, 0, gb, cb, g5, cap5, bag, L ++ [0], rfl, rfl, by go_num, by omega, by omega, by omega, (by show (L ++ [0], bag) = _; rw [HST.out, bagStep3 HT.out.symm, HB.out]; rfl), HS5.out⟩
        · have hpos : (0 : Int) < (mb : Int) := by omega
          obtain ⟨q, hq⟩ : ∃ q : Nat, (q : Int) = v % (mb : Int) := ⟨(v % (mb : Int)).toNat, by have := Int.emod_nonneg v (show (mb : Int) ≠ 0 by omega); omega⟩
          have hqm : q < mb := by have := Int.emod_lt_of_pos v (show (0 : Int) < (mb : Int) by omega); omega
          obtain ⟨y, hy⟩ : ∃ y, bag[q]? = some y := ⟨bag[q]'(by rw [HS2.out.2.2.1]; exact hqm), List.getElem?_eq_getElem _⟩
          have hcy := (own_cell HS2.out.1 hy).1
          have HY2 := Lib.hid (show bag.getD (v % (bag.length : Int)).toNat 0 = y by rw [HS2.out.2.2.1, ← hq, show ((q : Int)).toNat = q from rfl, List.getD_eq_getElem?_getD, hy]; rfl)
          have HQ := Lib.hid hq
          clear hy hq
          go_wp2_with fail
          refine (at_any v (mb : Int) _ (by omega) (by omega)).mono ?_
          rw [← HQ.out]
          rintro e w3 ⟨rfl, rfl⟩
          have z0 : (0 : Int) ≤ (q : Int) := by omega
          have z1 : (q : Int) < (mb : Int) := by omega
          go_wp2_with (at_builtin; refine wpList_app _ rfl (.tmp 79) (.tmp 88) rfl ints_ok w.heap.size g j cap (L.map (Value.int .i64)) (by rfl) (HS2.out.2.2.2.2.row.alloc _) _ 1 1 [.int .i64 y] (by rfl) (Src.one _ _ _) (by unfold maxLen; omega) (by omega) (by simp; omega) (j + 1) rfl _ rfl ?_; intro g5 cap5 w5 hown5 hgrow5 hat5)
          have HS5 := Lib.hid (HS2.out.told hown5 hgrow5 hat5)
          clear hown5 hgrow5 hat5
          go_wp2_with fail
          go_roundg (m - (j + 1))
          case measure => omega
          case rel => exact ⟨j + 1, mb, gb, cb, g5, cap5, bag, L ++ [y], rfl, rfl, by go_num, by omega, by omega, by omega, (by show (L ++ [y], bag) = _; rw [HST.out, bagStep3 HT.out.symm, HY2.out]), HS5.out⟩
    · obtain rfl : j = m := by omega
      have hfin : (L, bag) = bagRun ([], asc xs) os := by
        rw [HR.out, List.take_of_length_le (by rw [← HY.out]; exact Nat.le_refl _)]
      have HF := Lib.hid hfin
      have hne := HS.out.2.2.2.1
      have hbw2 := HS.out.2.2.2.2.belowW hbw hs1
      have HB2 := Lib.hid hbw2
      clear hfin hbw2
      go_wp2_with fail
      go_ret2
      refine ⟨_, _, _, _, _, _, rfl, ?_, ?_, fun e => hne e.symm, HB2.out⟩
      · rw [← HF.out]; exact HS.out.2.2.2.2.2.1
      · rw [← HF.out]; exact HS.out.1
theorem bag_any (va vb : Value) (xs : List Int) (os : List (Int × Int)) (w : World) (ha : Ro w va xs) (hb : Ros2 w vb os) (hn : xs.length + os.length ≤ 4398046511104) :
    Calls Try.prog 26 #[va, vb] w (MadeB 3 (bagRun ([], asc xs) os) w) := (bag_some va vb xs os w ha hb hn).mono fun _ _ h => h.made

end Go.Proofs.Ytpkdjdofbedncaa

/-
  What is proved here: the contract of the reference model's SortRows: the rows sorted by one key after the other; conditions: at most 2^40 rows and 2^44 keys.
-/
import Derived.Test.YtiioojnoggcnmaaSpecKey
import Derived.Test.YtiioojnoggcnmaaExRow
import Derived.Deep.RegionLaw
import Derived.BigQuiet
namespace Go.Proofs.Ytiioojnoggcnmaa
open Go.RowKit
set_option linter.unusedVariables false

theorem own_take {w : World} {B size g n cap i : Nat} {e : TypeId} {xs : List Value} (h : w.ownsRow B e size (.slice (some ⟨g, 0, none⟩) n cap) n xs) (hi : i ≤ n) : w.ownsRow B e size (.slice (some ⟨g, 0, none⟩) i cap) i (xs.take (i * size)) := by
  have hm : i * size ≤ n * size := Nat.mul_le_mul_right _ hi
  rcases h.2 with ⟨h0, _⟩ | ⟨g', cap', cur, h0, hB, hg, hnc, hcm, hcs, htk⟩
  · simp at h0
  · simp only [Value.slice.injEq, Option.some.injEq, Addr.mk.injEq, and_true, true_and] at h0
    obtain ⟨rfl, rfl⟩ := h0
    refine ⟨by rw [List.length_take, h.1]; omega, .inr ⟨g, cap, cur, rfl, hB, hg, by omega, hcm, hcs, ?_⟩⟩
    rw [← htk, List.take_take, Nat.min_eq_left hm]
theorem src_dropK {w : World} {B size g n cap i : Nat} {e : TypeId} {xs : List Value} (h : w.ownsRow B e size (.slice (some ⟨g, 0, none⟩) n cap) n xs) (h1 : ∀ u ∈ xs, u.oneCell' = true) (hi : i ≤ n) : Src w size (some ⟨g, i * size, none⟩) (n - i) (xs.drop (i * size)) := by
  refine ⟨by rw [List.length_drop, h.1, Nat.sub_mul], fun u hu => h1 u (List.mem_of_mem_drop hu), fun _ => ⟨_, rfl, fun j u hu => ?_⟩⟩
  rw [add_none, h.cellAt _ (by rw [List.getElem?_drop] at hu; have := (List.getElem?_eq_some_iff.1 hu).1; rw [h.1] at this; exact this), ← List.getElem?_drop]
  exact hu
theorem src_none (w : World) (size : Nat) (A : Option Addr) {xs : List Value} (h : xs.length = 0) : Src w size A 0 xs := by
  have e : xs = [] := List.eq_nil_of_length_eq_zero h
  subst e
  exact ⟨by simp, fun u hu => by simp at hu, fun h => absurd h (Nat.lt_irrefl _)⟩

theorem src_all {w : World} {B size g n cap : Nat} {e : TypeId} {xs : List Value} (h : w.ownsRow B e size (.slice (some ⟨g, 0, none⟩) n cap) n xs) (h1 : ∀ u ∈ xs, u.oneCell' = true) : Src w size (some ⟨g, 0, none⟩) n xs := by
  have := src_dropK (i := 0) h h1 (Nat.zero_le _)
  simpa using this
theorem src_new3 (w : World) (p q r : Int) (t : TypeId) (b : Nat) (hb : b = w.heap.size) : Src (w.alloc (.cells #[.int .i64 p, .int .i64 q, .int .i64 r] t)) 3 (some ⟨b, 0, none⟩) 1 [.int .i64 p, .int .i64 q, .int .i64 r] := by
  subst hb
  exact Src.new w #[.int .i64 p, .int .i64 q, .int .i64 r] t 3 rfl (fun u hu => by
    simp only [List.mem_cons, List.not_mem_nil, or_false] at hu
    rcases hu with rfl | rfl | rfl <;> rfl)
theorem cells_cut (L : List (Int × Int × Int)) (i : Nat) (hi : i ≤ L.length) : (cellsK enc3 L).take (i * 3) = cellsK enc3 (L.take i) ∧ (cellsK enc3 L).drop (i * 3) = cellsK enc3 (L.drop i) := by
  have e : cellsK enc3 L = cellsK enc3 (L.take i) ++ cellsK enc3 (L.drop i) := by rw [← cellsK_append, List.take_append_drop]
  have l : (cellsK enc3 (L.take i)).length = i * 3 := by rw [cellsK_len len_enc3, List.length_take, Nat.min_eq_left hi]
  rw [e]
  exact ⟨by rw [← l, List.take_left], by rw [← l, List.drop_left]⟩
theorem OutK.put {E : TypeId} {B g0 g g6 g7 i j cap cap7 : Nat} {w4 w5 wx w6 w7 : World} {L : List (Int × Int × Int)} {p q r : Int} (h : OutK 3 enc3 E B g0 w4 w5 g j cap L) (hx : Below w5.heap.size w5 wx) (hi : i ≤ j)
    (hg6 : wx.grownBy w6 (some g)) (hat6 : g6 = g ∨ g6 = wx.heap.size) (hg7 : w6.grownBy w7 (some g6)) (hat7 : g7 = g6 ∨ g7 = w6.heap.size)
    (hown : w7.ownsRow B E 3 (.slice (some ⟨g7, 0, none⟩) (j + 1) cap7) (j + 1) ((cellsK enc3 L).take (i * 3) ++ [.int .i64 p, .int .i64 q, .int .i64 r] ++ (cellsK enc3 L).drop (i * 3))) :
    OutK 3 enc3 E B g0 w4 w7 g7 (j + 1) cap7 (L.take i ++ (p, q, r) :: L.drop i) := by
  obtain ⟨h1, h2, h3, h4⟩ := h.below hx
  have hs4 := h4.size
  have hs6 := hg6.size
  have hl : (L.take i ++ (p, q, r) :: L.drop i).length = j + 1 := by rw [List.length_append, List.length_cons, List.length_take, List.length_drop]; omega
  have h6 : g6 = g0 ∨ w4.heap.size ≤ g6 := by
    rcases hat6 with e | e
    · rw [e]; exact h3
    · right; omega
  refine ⟨hl, ?_, ?_, ?_⟩
  · unfold OwnK
    rw [hl, cellsK_append]
    obtain ⟨c1, c2⟩ := cells_cut L i (by omega)
    rw [c1, c2, List.append_assoc] at hown
    have e : cellsK enc3 ((p, q, r) :: L.drop i) = [.int .i64 p, .int .i64 q, .int .i64 r] ++ cellsK enc3 (L.drop i) := by
      rw [← List.singleton_append, cellsK_append]; rfl
    rw [e]
    exact hown
  · rcases hat7 with e | e
    · rw [e]; exact h6
    · right; omega
  · refine (h4.andThen hg6 (fun k hk => ?_)).andThen hg7 (fun k hk => ?_)
    · injection hk with hk
      subst hk
      rcases h3 with e | e
      · right; rw [e]
      · left; exact e
    · injection hk with hk
      subst hk
      rcases h6 with e | e
      · right; rw [e]
      · left; exact e

set_option maxRecDepth 100000 in
set_option maxHeartbeats 8000000 in
theorem specSortRows_any (va vk : Value) (xs : List (Int × Int × Int)) (ks : List Int) (w : World) (ha : Ros3 w va xs) (hk : Ro w vk ks) (hn : xs.length ≤ 1099511627776) (hm : ks.length ≤ 17592186044416) :
    Calls Try.prog 19 #[va, vk] w (MadeK 3 enc3 45 (rsort xs ks) w) := by
  have HRA := Lib.hid ha
  have HRK := Lib.hid hk
  have HM := Lib.hid hm
  obtain ⟨A, c, b0, off0, rfl, hnc, hcm, -, -⟩ := ha.shape
  obtain ⟨n, hxn⟩ : ∃ n, n = xs.length := ⟨_, rfl⟩
  rw [← hxn] at hn hnc HRA ⊢
  have HX := Lib.hid hxn
  clear hxn ha hk hm
  unfold maxLen at hcm
  have HO0 := Lib.hid (show OwnK 3 enc3 45 w.heap.size (w.alloc (.cells #[] 45)) (.slice (some ⟨w.heap.size, 0, none⟩) 0 0) [] from ownE (e := 45) (size := 3) w (Nat.le_refl _))
  have hbw4 : Below w.heap.size w (w.alloc (.cells #[] 45)) := (Below.refl _ _).alloc (Nat.le_refl _) _
  go_enter Try.func19, Try.ntmps19
  go_wp2_with fail
  go_loopg [5, 13] n (fun kx s5 s13 wr => ∃ (j g cap : Nat) (L : List (Int × Int × Int)), s5 = .slice (some ⟨g, 0, none⟩) j cap ∧ s13 = .int .i64 j ∧ j ≤ n ∧ n - j ≤ kx ∧
    Hid (Stab (ltKeys ks) (xs.take j) L) ∧ Hid (OutK 3 enc3 45 w.heap.size w.heap.size (w.alloc (.cells #[] 45)) wr g j cap L))
  case atStart => exact ⟨0, w.heap.size, 0, [], rfl, rfl, Nat.zero_le _, by omega, stab_nil, OutK.start HO0.out⟩
  case round =>
    obtain ⟨j, g, cap, L, rfl, rfl, hj, hjk, HS, HO⟩ := hrel
    clear HO0
    obtain ⟨hgB, hgl, hlc, hcap, hsz⟩ := HO.out.lt
    unfold maxLen at hcap
    have hbw : Below w.heap.size w wr := HO.out.belowW hbw4 (Nat.le_refl _)
    by_cases hlt : j < n
    · obtain ⟨p, q, r, hx⟩ : ∃ p q r, xs[j]? = some (p, q, r) := ⟨_, _, _, List.getElem?_eq_getElem (by rw [← HX.out]; exact hlt)⟩
      obtain ⟨b, off, rfl, hc0, hc1, hc2, hbl⟩ := (HRA.out.below hbw).at hx
      have HXT : Hid (xs.take (j + 1) = xs.take j ++ [(p, q, r)]) := by show _ = _; rw [List.take_add_one, hx]; rfl
      have HLL : Hid (L.length = j) := HO.out.2.1.lt.2.2.1
      obtain ⟨bs, hbs⟩ : ∃ bs, bs = wr.heap.size := ⟨_, rfl⟩
      obtain ⟨W1, hW1⟩ : ∃ W1, W1 = wr.alloc (.cells #[.int .i64 p, .int .i64 q, .int .i64 r] 45) := ⟨_, rfl⟩
      have hb1 : Below wr.heap.size wr W1 := by rw [hW1]; exact (Below.refl _ _).alloc (Nat.le_refl _) _
      have hs1 : W1.heap.size = bs + 1 := by rw [hW1, hbs]; simp
      have HC1 : Hid (W1.cell? ⟨bs, 0, none⟩ = some (.int .i64 p) ∧ W1.cell? ⟨bs, 1, none⟩ = some (.int .i64 q) ∧ W1.cell? ⟨bs, 2, none⟩ = some (.int .i64 r)) := by
        rw [hW1, hbs]; exact ⟨by simp [go_sem], by simp [go_sem], by simp [go_sem]⟩
      have HO1 := Lib.hid (HO.out.below hb1)
      have HRK1 := Lib.hid (HRK.out.below (below_step hbw hb1))
      have hgs : g < bs := by rw [hbs]; exact hgl
      have HBW1 := Lib.hid (below_step hbw hb1)
      clear hx HO
      go_wp2_with fail
      rw [← hW1, ← hbs]
      clear hW1 hbs hb1 hc0 hc1 hc2 hbl hgl hsz hbw
      go_loopg [8] j (fun gx s8 wr2 => ∃ (i : Nat), s8 = .int .i64 i ∧ i ≤ j ∧ i ≤ gx ∧ Hid (Below W1.heap.size W1 wr2) ∧ Hid (∀ t x, i ≤ t → L[t]? = some x → ltKeys ks (p, q, r) x = true))
      case atStart => exact ⟨j, rfl, Nat.le_refl _, Nat.le_refl _, Below.refl _ _, fun t x h1 h2 => by have := (List.getElem?_eq_some_iff.1 h2).1; have := HLL.out; omega⟩
      case round =>
        obtain ⟨i, rfl, hij, hig, HB, HI⟩ := hrel
        by_cases hi0 : 0 < i
        · obtain ⟨m, hm⟩ : ∃ m, m = i - 1 := ⟨_, rfl⟩
          have im : (i : Int) - 1 = (m : Int) := by omega
          obtain ⟨x1, x2, x3, hx⟩ : ∃ x1 x2 x3, L[m]? = some (x1, x2, x3) := ⟨_, _, _, List.getElem?_eq_getElem (by have := HLL.out; omega)⟩
          obtain ⟨bb, hbb⟩ : ∃ bb, bb = ltKeys ks (p, q, r) (x1, x2, x3) := ⟨_, rfl⟩
          have HBB := Lib.hid hbb
          have hwr : W1.heap.size ≤ wr.heap.size := HB.out.size
          have KS : Hid (∀ W, Below wr.heap.size wr W → W.cell? ⟨bs, 0, none⟩ = some (.int .i64 p) ∧ W.cell? ⟨bs, 1, none⟩ = some (.int .i64 q) ∧ W.cell? ⟨bs, 2, none⟩ = some (.int .i64 r) ∧ W.cell? ⟨g, m * 3, none⟩ = some (.int .i64 x1) ∧ W.cell? ⟨g, m * 3 + 1, none⟩ = some (.int .i64 x2) ∧ W.cell? ⟨g, m * 3 + 2, none⟩ = some (.int .i64 x3)) := fun W hW => by
            have hh : Below W1.heap.size W1 W := HB.out.trans (hW.mono HB.out.size)
            have c := HC1.out
            have cK := fun t y ht => ((HO1.out.2.1.below hh).cellK len_enc3 hx (j := t) (y := y) ht).1
            exact ⟨(hh.cell (p := ⟨bs, 0, none⟩) (by rw [hs1]; simp)).trans c.1, (hh.cell (p := ⟨bs, 1, none⟩) (by rw [hs1]; simp)).trans c.2.1, (hh.cell (p := ⟨bs, 2, none⟩) (by rw [hs1]; simp)).trans c.2.2, cK 0 x1 rfl, cK 1 x2 rfl, cK 2 x3 rfl⟩
          have hB0 : Below wr.heap.size wr wr.drew := (Below.refl _ _).drew
          have HRK2 := Lib.hid (HRK1.out.below (below_step HB.out hB0))
          have HX2 := Lib.hid hx
          have w1 : IntKind.i64.wrap ((i : Int) - 1) = (m : Int) := by rw [im]; exact IntWalk.i64_in _ (by omega)
          have mz0 : (0 : Int) ≤ (m : Int) := by omega
          have mzn : (m : Int) < (j : Int) := by omega
          have y1 : (1 : Int) ≤ (i : Int) := by omega
          have y2 : 1 ≤ i := by omega
          have y3 : (i : Int) ≤ (j : Int) := by omega
          have y4 : ¬ i = 0 := by omega
          have y5 : ¬ (i : Int) < 1 := by omega
          have y6 : ¬ i < 1 := by omega
          have HMI := Lib.hid hm
          have HIM := Lib.hid im
          clear hm im w1
          have w2 : IntKind.i64.wrap ((i : Int) - 1) = (i : Int) - 1 := IntWalk.i64_in _ (by omega)
          have w3 : wrap64 ((i : Int) - 1) = (i : Int) - 1 := by unfold wrap64; omega
          have z0 : (0 : Int) ≤ (i : Int) - 1 := by omega
          have z1 : (i : Int) - 1 < (j : Int) := by omega
          have z2 : ((i : Int) - 1).toNat = m := by have := HMI.out; omega
          have iz0 : (i : Int) > 0 := by omega
          have iz1 : decide ((i : Int) > 0) = true := decide_eq_true iz0
          clear hx hbb
          go_wp2_with fail
          go_region_held3 (fun W => W.cell? ⟨bs, 0, none⟩ = some (.int .i64 p) ∧ W.cell? ⟨bs, 1, none⟩ = some (.int .i64 q) ∧ W.cell? ⟨bs, 2, none⟩ = some (.int .i64 r) ∧ W.cell? ⟨g, m * 3, none⟩ = some (.int .i64 x1) ∧ W.cell? ⟨g, m * 3 + 1, none⟩ = some (.int .i64 x2) ∧ W.cell? ⟨g, m * 3 + 2, none⟩ = some (.int .i64 x3)) (first | exact KS.out _ hB0 | exact KS.out _ (by assumption))
            (first
              | (go_at_call 40; refine (before_any _ _ _ _ _ _ _ ks _ HRK2.out HM.out).mono ?_; rw [← HBB.out]; rintro e w' ⟨rfl, hbx⟩; have hB1 := below_step hB0 hbx; clear hbx))
          cases hbv : bb with
          | true =>
            have HIN : Hid (∀ t x, m ≤ t → L[t]? = some x → ltKeys ks (p, q, r) x = true) := fun t x h1 h2 => by
              rcases Nat.lt_or_ge t i with h3 | h3
              · have e : t = m := by have := HMI.out; omega
                rw [e, HX2.out] at h2
                rw [← Option.some.inj h2, ← HBB.out]; exact hbv
              · exact HI.out t x h3 h2
            have HBn := Lib.hid (HB.out.trans (hB1.mono HB.out.size))
            subst hbv
            clear hB0 hB1 KS
            go_wp2_with fail
            go_roundg m
            case measure => omega
            case rel => exact ⟨m, by rw [HIM.out], by omega, Nat.le_refl _, HBn.out, HIN.out⟩
          | false =>
            have HI2 : Hid (∀ x, 0 < i → L[i - 1]? = some x → ltKeys ks (p, q, r) x = false) := fun x _ h2 => by
              rw [← HMI.out, HX2.out] at h2
              rw [← Option.some.inj h2, ← HBB.out]; exact hbv
            have HB2 := Lib.hid (HB.out.trans (hB1.mono HB.out.size))
            subst hbv
            clear hB0 hB1 KS HX2 HRK2 HBB HMI HIM w2 w3 z0 z1 z2 y1 y2 y4 y5 y6 iz0 iz1 hwr mz0 mzn
            obtain ⟨W2, hW2⟩ : ∃ W2, W2 = w' := ⟨_, rfl⟩
            rw [← hW2] at HB2 ⊢
            clear hW2 HB

            have hsz2 : bs + 1 ≤ W2.heap.size := by have := HB2.out.size; omega
            have hw2 : w.heap.size ≤ W2.heap.size := by have := HBW1.out.size; omega
            have HROW := Lib.hid (HO1.out.below HB2.out).row
            by_cases hci : cap = i
            · obtain rfl : i = cap := by omega
              obtain rfl : i = j := by omega
              have SRC : Hid (Src W2 3 (some ⟨g, 0, none⟩) 0 ((cellsK enc3 L).drop (i * 3))) := src_none _ _ _ (by rw [List.length_drop, cellsK_len len_enc3, HLL.out]; omega)
              go_wp2_with (at_builtin; refine wpList_app _ rfl (.tmp 33) (.tmp 36) rfl ok_Row w.heap.size W2.heap.size 0 0 [] (by rfl) (ownE _ hw2) _ 0 0 ((cellsK enc3 L).drop (i * 3)) (by rfl) (SRC.out.alloc _) (by unfold maxLen; omega) (by omega) (by simp; omega) 0 (by omega) _ rfl ?_; intro g5 cap5 w5 hown5 hgrow5 hat5)
              have hb5 : Below W2.heap.size W2 w5 := below_app hgrow5 (Nat.le_refl _) ((Below.refl _ _).alloc (Nat.le_refl _) _)
              have hg5 : W2.heap.size ≤ g5 := by
                rcases hat5 with e | e
                · omega
                · rw [e]; simp
              have hne5 : g5 ≠ g := by omega
              have hsz5 : W2.heap.size ≤ w5.heap.size := hb5.size
              have HO5 := Lib.hid ((HO1.out.below HB2.out).below hb5)
              have SRC5 := Lib.hid (src_all hown5 (fun u hu => oneCellK L u (List.mem_of_mem_drop hu)))
              have hh5 : Below W1.heap.size W1 w5 := HB2.out.trans (hb5.mono HB2.out.size)
              have cz0 : w5.cell? ⟨bs, 0, none⟩ = some (.int .i64 p) := (hh5.cell (p := ⟨bs, 0, none⟩) (by rw [hs1]; simp)).trans HC1.out.1
              have cz1 : w5.cell? ⟨bs, 1, none⟩ = some (.int .i64 q) := (hh5.cell (p := ⟨bs, 1, none⟩) (by rw [hs1]; simp)).trans HC1.out.2.1
              have cz2 : w5.cell? ⟨bs, 2, none⟩ = some (.int .i64 r) := (hh5.cell (p := ⟨bs, 2, none⟩) (by rw [hs1]; simp)).trans HC1.out.2.2
              have hbs5 : bs < w5.heap.size := by omega
              have HOT := Lib.hid (own_take HO5.out.row hij)
              have HSN : Hid (Stab (ltKeys ks) (xs.take (i + 1)) (L.take i ++ (p, q, r) :: L.drop i)) := by
                show Stab _ _ _
                rw [HXT.out]
                exact stab_put (swo_ltKeys ks) HS.out (p, q, r) i (by rw [HLL.out]; exact hij) HI.out HI2.out
              have HOTD : Hid (w5.drew.ownsRow w.heap.size 45 3 (.slice (some ⟨g, 0, none⟩) i i) i ((cellsK enc3 L).take (i * 3))) := HOT.out
              have hw5 : w.heap.size ≤ w5.heap.size := by omega
              have iz : (0 : Int) ≤ (i : Int) := by omega
              have icz : (i : Int) ≤ (i : Int) := by omega
              clear hown5 hgrow5 hat5 SRC HROW hb5 HI HI2 HB2 HOT
              go_wp2_with fail
              go_region_law ((first
                | (refine step_app _ (by rfl) (.tmp 40) (.tmp 42) (by rfl) ok_Row w.heap.size g i i _ (by rfl) (HOTD.out.alloc _) _ 1 1 [.int .i64 p, .int .i64 q, .int .i64 r] (by rfl) (src_new3 _ _ _ _ _ _ (by simp)) (by unfold maxLen; omega) (by omega) (by simp; omega) (i + 1) rfl _ rfl ?_; intro g6 cap6 w6 hown6 hgrow6 hat6)
                | (refine step_app _ (by rfl) (.tmp 43) (.tmp 44) (by rfl) ok_Row w.heap.size g6 (i + 1) cap6 _ (by rfl) hown6 _ 0 cap5 _ (by rfl) ((Src.alloc (w := w5.drew) SRC5.out _).grown hgrow6 hne5) (by unfold maxLen; omega) (by omega) (by have := hgrow6.size; simp at this; omega) (i + 1) (by omega) _ rfl ?_; intro g7 cap7 w7 hown7 hgrow7 hat7)))
              all_goals
                have HOP := Lib.hid (OutK.put HO5.out (((Below.refl _ _).drew).alloc (Nat.le_refl _) _) hij hgrow6 hat6 hgrow7 hat7 hown7)
                clear hown6 hgrow6 hat6 hown7 hgrow7 hat7 HO5 HO1 SRC5 HOTD
                go_wp2_with fail
                go_roundg (n - (i + 1))
                case measure => omega
                case rel => exact ⟨i + 1, g7, cap7, L.take i ++ (p, q, r) :: L.drop i, rfl, by go_num, by omega, by omega, HSN.out, HOP.out⟩
            · have SRC := Lib.hid (src_dropK HROW.out (oneCellK L) hij)
              go_wp2_with (at_builtin; refine wpList_app _ rfl (.tmp 33) (.tmp 36) rfl ok_Row w.heap.size W2.heap.size 0 0 [] (by rfl) (ownE _ hw2) _ (j - i) (cap - i) ((cellsK enc3 L).drop (i * 3)) (by rfl) (SRC.out.alloc _) (by unfold maxLen; omega) (by omega) (by simp; omega) (j - i) (by omega) _ rfl ?_; intro g5 cap5 w5 hown5 hgrow5 hat5)
              have hb5 : Below W2.heap.size W2 w5 := below_app hgrow5 (Nat.le_refl _) ((Below.refl _ _).alloc (Nat.le_refl _) _)
              have hg5 : W2.heap.size ≤ g5 := by
                rcases hat5 with e | e
                · omega
                · rw [e]; simp
              have hne5 : g5 ≠ g := by omega
              have hsz5 : W2.heap.size ≤ w5.heap.size := hb5.size
              have HO5 := Lib.hid ((HO1.out.below HB2.out).below hb5)
              have SRC5 := Lib.hid (src_all hown5 (fun u hu => oneCellK L u (List.mem_of_mem_drop hu)))
              have hh5 : Below W1.heap.size W1 w5 := HB2.out.trans (hb5.mono HB2.out.size)
              have cz0 : w5.cell? ⟨bs, 0, none⟩ = some (.int .i64 p) := (hh5.cell (p := ⟨bs, 0, none⟩) (by rw [hs1]; simp)).trans HC1.out.1
              have cz1 : w5.cell? ⟨bs, 1, none⟩ = some (.int .i64 q) := (hh5.cell (p := ⟨bs, 1, none⟩) (by rw [hs1]; simp)).trans HC1.out.2.1
              have cz2 : w5.cell? ⟨bs, 2, none⟩ = some (.int .i64 r) := (hh5.cell (p := ⟨bs, 2, none⟩) (by rw [hs1]; simp)).trans HC1.out.2.2
              have hbs5 : bs < w5.heap.size := by omega
              have HOT := Lib.hid (own_take HO5.out.row hij)
              have HSN : Hid (Stab (ltKeys ks) (xs.take (j + 1)) (L.take i ++ (p, q, r) :: L.drop i)) := by
                show Stab _ _ _
                rw [HXT.out]
                exact stab_put (swo_ltKeys ks) HS.out (p, q, r) i (by rw [HLL.out]; exact hij) HI.out HI2.out
              have HOTD : Hid (w5.drew.ownsRow w.heap.size 45 3 (.slice (some ⟨g, 0, none⟩) i cap) i ((cellsK enc3 L).take (i * 3))) := HOT.out
              have hw5 : w.heap.size ≤ w5.heap.size := by omega
              have iz : (0 : Int) ≤ (i : Int) := by omega
              have icz : (i : Int) ≤ (cap : Int) := by omega
              clear hown5 hgrow5 hat5 SRC HROW hb5 HI HI2 HB2 HOT
              go_wp2_with fail
              go_region_law ((first
                | (refine step_app _ (by rfl) (.tmp 40) (.tmp 42) (by rfl) ok_Row w.heap.size g i cap _ (by rfl) (HOTD.out.alloc _) _ 1 1 [.int .i64 p, .int .i64 q, .int .i64 r] (by rfl) (src_new3 _ _ _ _ _ _ (by simp)) (by unfold maxLen; omega) (by omega) (by simp; omega) (i + 1) rfl _ rfl ?_; intro g6 cap6 w6 hown6 hgrow6 hat6)
                | (refine step_app _ (by rfl) (.tmp 43) (.tmp 44) (by rfl) ok_Row w.heap.size g6 (i + 1) cap6 _ (by rfl) hown6 _ (j - i) cap5 _ (by rfl) ((Src.alloc (w := w5.drew) SRC5.out _).grown hgrow6 hne5) (by unfold maxLen; omega) (by omega) (by have := hgrow6.size; simp at this; omega) (j + 1) (by omega) _ rfl ?_; intro g7 cap7 w7 hown7 hgrow7 hat7)))
              all_goals
                have HOP := Lib.hid (OutK.put HO5.out (((Below.refl _ _).drew).alloc (Nat.le_refl _) _) hij hgrow6 hat6 hgrow7 hat7 hown7)
                clear hown6 hgrow6 hat6 hown7 hgrow7 hat7 HO5 HO1 SRC5 HOTD
                go_wp2_with fail
                go_roundg (n - (j + 1))
                case measure => omega
                case rel => exact ⟨j + 1, g7, cap7, L.take i ++ (p, q, r) :: L.drop i, rfl, by go_num, by omega, by omega, HSN.out, HOP.out⟩
        · have HI2 : Hid (∀ x, 0 < i → L[i - 1]? = some x → ltKeys ks (p, q, r) x = false) := fun x h _ => absurd h hi0
          have iz1 : decide ((i : Int) > 0) = false := decide_eq_false (by omega)
          have iz2 : decide ((0 : Int) < (i : Int)) = false := decide_eq_false (by omega)
          have iz3 : decide (0 < i) = false := decide_eq_false hi0
          go_wp2_with fail
          go_quiet (fail)
          have HB2 : Hid (Below W1.heap.size W1 (wr.drewN nq)) := ⟨HB.out.os, HB.out.tape, HB.out.output, HB.out.size, HB.out.block⟩
          obtain ⟨W2, hW2⟩ : ∃ W2, W2 = wr.drewN nq := ⟨_, rfl⟩
          rw [← hW2] at HB2 ⊢
          clear hW2 HB iz1 iz2 iz3
          have y3 : (i : Int) ≤ (j : Int) := by omega

          have hsz2 : bs + 1 ≤ W2.heap.size := by have := HB2.out.size; omega
          have hw2 : w.heap.size ≤ W2.heap.size := by have := HBW1.out.size; omega
          have HROW := Lib.hid (HO1.out.below HB2.out).row
          by_cases hci : cap = i
          · obtain rfl : i = cap := by omega
            obtain rfl : i = j := by omega
            have SRC : Hid (Src W2 3 (some ⟨g, 0, none⟩) 0 ((cellsK enc3 L).drop (i * 3))) := src_none _ _ _ (by rw [List.length_drop, cellsK_len len_enc3, HLL.out]; omega)
            go_wp2_with (at_builtin; refine wpList_app _ rfl (.tmp 33) (.tmp 36) rfl ok_Row w.heap.size W2.heap.size 0 0 [] (by rfl) (ownE _ hw2) _ 0 0 ((cellsK enc3 L).drop (i * 3)) (by rfl) (SRC.out.alloc _) (by unfold maxLen; omega) (by omega) (by simp; omega) 0 (by omega) _ rfl ?_; intro g5 cap5 w5 hown5 hgrow5 hat5)
            have hb5 : Below W2.heap.size W2 w5 := below_app hgrow5 (Nat.le_refl _) ((Below.refl _ _).alloc (Nat.le_refl _) _)
            have hg5 : W2.heap.size ≤ g5 := by
              rcases hat5 with e | e
              · omega
              · rw [e]; simp
            have hne5 : g5 ≠ g := by omega
            have hsz5 : W2.heap.size ≤ w5.heap.size := hb5.size
            have HO5 := Lib.hid ((HO1.out.below HB2.out).below hb5)
            have SRC5 := Lib.hid (src_all hown5 (fun u hu => oneCellK L u (List.mem_of_mem_drop hu)))
            have hh5 : Below W1.heap.size W1 w5 := HB2.out.trans (hb5.mono HB2.out.size)
            have cz0 : w5.cell? ⟨bs, 0, none⟩ = some (.int .i64 p) := (hh5.cell (p := ⟨bs, 0, none⟩) (by rw [hs1]; simp)).trans HC1.out.1
            have cz1 : w5.cell? ⟨bs, 1, none⟩ = some (.int .i64 q) := (hh5.cell (p := ⟨bs, 1, none⟩) (by rw [hs1]; simp)).trans HC1.out.2.1
            have cz2 : w5.cell? ⟨bs, 2, none⟩ = some (.int .i64 r) := (hh5.cell (p := ⟨bs, 2, none⟩) (by rw [hs1]; simp)).trans HC1.out.2.2
            have hbs5 : bs < w5.heap.size := by omega
            have HOT := Lib.hid (own_take HO5.out.row hij)
            have HSN : Hid (Stab (ltKeys ks) (xs.take (i + 1)) (L.take i ++ (p, q, r) :: L.drop i)) := by
              show Stab _ _ _
              rw [HXT.out]
              exact stab_put (swo_ltKeys ks) HS.out (p, q, r) i (by rw [HLL.out]; exact hij) HI.out HI2.out
            have HOTD : Hid (w5.drew.ownsRow w.heap.size 45 3 (.slice (some ⟨g, 0, none⟩) i i) i ((cellsK enc3 L).take (i * 3))) := HOT.out
            have hw5 : w.heap.size ≤ w5.heap.size := by omega
            have iz : (0 : Int) ≤ (i : Int) := by omega
            have icz : (i : Int) ≤ (i : Int) := by omega
            clear hown5 hgrow5 hat5 SRC HROW hb5 HI HI2 HB2 HOT
            go_wp2_with fail
            go_region_law ((first
              | (refine step_app _ (by rfl) (.tmp 40) (.tmp 42) (by rfl) ok_Row w.heap.size g i i _ (by rfl) (HOTD.out.alloc _) _ 1 1 [.int .i64 p, .int .i64 q, .int .i64 r] (by rfl) (src_new3 _ _ _ _ _ _ (by simp)) (by unfold maxLen; omega) (by omega) (by simp; omega) (i + 1) rfl _ rfl ?_; intro g6 cap6 w6 hown6 hgrow6 hat6)
              | (refine step_app _ (by rfl) (.tmp 43) (.tmp 44) (by rfl) ok_Row w.heap.size g6 (i + 1) cap6 _ (by rfl) hown6 _ 0 cap5 _ (by rfl) ((Src.alloc (w := w5.drew) SRC5.out _).grown hgrow6 hne5) (by unfold maxLen; omega) (by omega) (by have := hgrow6.size; simp at this; omega) (i + 1) (by omega) _ rfl ?_; intro g7 cap7 w7 hown7 hgrow7 hat7)))
            all_goals
              have HOP := Lib.hid (OutK.put HO5.out (((Below.refl _ _).drew).alloc (Nat.le_refl _) _) hij hgrow6 hat6 hgrow7 hat7 hown7)
              clear hown6 hgrow6 hat6 hown7 hgrow7 hat7 HO5 HO1 SRC5 HOTD
              go_wp2_with fail
              go_roundg (n - (i + 1))
              case measure => omega
              case rel => exact ⟨i + 1, g7, cap7, L.take i ++ (p, q, r) :: L.drop i, rfl, by go_num, by omega, by omega, HSN.out, HOP.out⟩
          · have SRC := Lib.hid (src_dropK HROW.out (oneCellK L) hij)
            go_wp2_with (at_builtin; refine wpList_app _ rfl (.tmp 33) (.tmp 36) rfl ok_Row w.heap.size W2.heap.size 0 0 [] (by rfl) (ownE _ hw2) _ (j - i) (cap - i) ((cellsK enc3 L).drop (i * 3)) (by rfl) (SRC.out.alloc _) (by unfold maxLen; omega) (by omega) (by simp; omega) (j - i) (by omega) _ rfl ?_; intro g5 cap5 w5 hown5 hgrow5 hat5)
            have hb5 : Below W2.heap.size W2 w5 := below_app hgrow5 (Nat.le_refl _) ((Below.refl _ _).alloc (Nat.le_refl _) _)
            have hg5 : W2.heap.size ≤ g5 := by
              rcases hat5 with e | e
              · omega
              · rw [e]; simp
            have hne5 : g5 ≠ g := by omega
            have hsz5 : W2.heap.size ≤ w5.heap.size := hb5.size
            have HO5 := Lib.hid ((HO1.out.below HB2.out).below hb5)
            have SRC5 := Lib.hid (src_all hown5 (fun u hu => oneCellK L u (List.mem_of_mem_drop hu)))
            have hh5 : Below W1.heap.size W1 w5 := HB2.out.trans (hb5.mono HB2.out.size)
            have cz0 : w5.cell? ⟨bs, 0, none⟩ = some (.int .i64 p) := (hh5.cell (p := ⟨bs, 0, none⟩) (by rw [hs1]; simp)).trans HC1.out.1
            have cz1 : w5.cell? ⟨bs, 1, none⟩ = some (.int .i64 q) := (hh5.cell (p := ⟨bs, 1, none⟩) (by rw [hs1]; simp)).trans HC1.out.2.1
            have cz2 : w5.cell? ⟨bs, 2, none⟩ = some (.int .i64 r) := (hh5.cell (p := ⟨bs, 2, none⟩) (by rw [hs1]; simp)).trans HC1.out.2.2
            have hbs5 : bs < w5.heap.size := by omega
            have HOT := Lib.hid (own_take HO5.out.row hij)
            have HSN : Hid (Stab (ltKeys ks) (xs.take (j + 1)) (L.take i ++ (p, q, r) :: L.drop i)) := by
              show Stab _ _ _
              rw [HXT.out]
              exact stab_put (swo_ltKeys ks) HS.out (p, q, r) i (by rw [HLL.out]; exact hij) HI.out HI2.out
            have HOTD : Hid (w5.drew.ownsRow w.heap.size 45 3 (.slice (some ⟨g, 0, none⟩) i cap) i ((cellsK enc3 L).take (i * 3))) := HOT.out
            have hw5 : w.heap.size ≤ w5.heap.size := by omega
            have iz : (0 : Int) ≤ (i : Int) := by omega
            have icz : (i : Int) ≤ (cap : Int) := by omega
            clear hown5 hgrow5 hat5 SRC HROW hb5 HI HI2 HB2 HOT
            go_wp2_with fail
            go_region_law ((first
              | (refine step_app _ (by rfl) (.tmp 40) (.tmp 42) (by rfl) ok_Row w.heap.size g i cap _ (by rfl) (HOTD.out.alloc _) _ 1 1 [.int .i64 p, .int .i64 q, .int .i64 r] (by rfl) (src_new3 _ _ _ _ _ _ (by simp)) (by unfold maxLen; omega) (by omega) (by simp; omega) (i + 1) rfl _ rfl ?_; intro g6 cap6 w6 hown6 hgrow6 hat6)
              | (refine step_app _ (by rfl) (.tmp 43) (.tmp 44) (by rfl) ok_Row w.heap.size g6 (i + 1) cap6 _ (by rfl) hown6 _ (j - i) cap5 _ (by rfl) ((Src.alloc (w := w5.drew) SRC5.out _).grown hgrow6 hne5) (by unfold maxLen; omega) (by omega) (by have := hgrow6.size; simp at this; omega) (j + 1) (by omega) _ rfl ?_; intro g7 cap7 w7 hown7 hgrow7 hat7)))
            all_goals
              have HOP := Lib.hid (OutK.put HO5.out (((Below.refl _ _).drew).alloc (Nat.le_refl _) _) hij hgrow6 hat6 hgrow7 hat7 hown7)
              clear hown6 hgrow6 hat6 hown7 hgrow7 hat7 HO5 HO1 SRC5 HOTD
              go_wp2_with fail
              go_roundg (n - (j + 1))
              case measure => omega
              case rel => exact ⟨j + 1, g7, cap7, L.take i ++ (p, q, r) :: L.drop i, rfl, by go_num, by omega, by omega, HSN.out, HOP.out⟩
    · obtain rfl : j = n := by omega
      have HF : Hid (L = rsort xs ks) := by
        have h := HS.out
        rw [List.take_of_length_le (by rw [← HX.out]; exact Nat.le_refl _)] at h
        exact stab_unique (swo_ltKeys ks) h (rsort_stab xs ks)
      clear HS
      go_wp2_with fail
      go_ret
      exact HO.out.made hbw4 (Nat.le_refl _) HF.out

end Go.Proofs.Ytiioojnoggcnmaa

/-
  What is proved here: the walk of the law FnRowsKeys; no other condition. Written by wip/gen/rowskeys.py.
-/
import Derived.Test.YtiioojnoggcnmaaRowsHelp
import Derived.Test.YtiioojnoggcnmaaRowsKeysPlain
import Derived.Test.YtiioojnoggcnmaaSame
import Derived.Deep.RegionLaw
namespace Go.Proofs.Ytiioojnoggcnmaa
open Go.RowKit
set_option linter.unusedVariables false

theorem idx_0 (p q r : Int) (W : World) : Sem.run Try.prog (Instr.index 46 (.agg #[.int .i64 p, .int .i64 q, .int .i64 r]) (.int .i64 0)) W = .ok (.int .i64 p) W := by
  simp [Instr.index, run_underlying Try.underlying46, go_sem]
theorem idx_1 (p q r : Int) (W : World) : Sem.run Try.prog (Instr.index 46 (.agg #[.int .i64 p, .int .i64 q, .int .i64 r]) (.int .i64 1)) W = .ok (.int .i64 q) W := by
  simp [Instr.index, run_underlying Try.underlying46, go_sem]
theorem idx_2 (p q r : Int) (W : World) : Sem.run Try.prog (Instr.index 46 (.agg #[.int .i64 p, .int .i64 q, .int .i64 r]) (.int .i64 2)) W = .ok (.int .i64 r) W := by
  simp [Instr.index, run_underlying Try.underlying46, go_sem]

theorem idx_any (p q r t : Int) (W : World) (h0 : 0 ≤ t) (h3 : t < 3) : Sem.run Try.prog (Instr.index 46 (.agg #[.int .i64 p, .int .i64 q, .int .i64 r]) (.int .i64 t)) W = .ok (.int .i64 (keyOf t.toNat (p, q, r))) W := by
  obtain h | h | h : t = 0 ∨ t = 1 ∨ t = 2 := by omega
  · subst h; exact idx_0 p q r W
  · subst h; exact idx_1 p q r W
  · subst h; exact idx_2 p q r W

set_option maxRecDepth 100000 in
set_option maxHeartbeats 40000000 in
theorem walk_FnRowsKeys (v0 : Value) (x0 : List (Int × Int × Int)) (a1 : Int) (w : World) (h0 : Ros3 w v0 x0) (f0 : ∀ x ∈ x0, (Lit.int .i64 x.1).wf = true ∧ (Lit.int .i64 x.2.1).wf = true ∧ (Lit.int .i64 x.2.2).wf = true) (n0 : x0.length * 24 ≤ 140737488351232) (f1 : (Lit.int .i64 a1).wf = true) :
    Calls Try.prog 9 #[v0, .int .i64 a1] w fun e w' => e = .returned (.bool true) ∧ Below w.heap.size w w' := by
  have R_v0 := Lib.hid h0
  clear h0 f0 f1
  obtain ⟨A0, c0, b0, off0, rfl, hnc0, hcm0, -, -⟩ := R_v0.out.shape
  obtain ⟨l0, hl0⟩ : ∃ n, n = x0.length := ⟨_, rfl⟩
  rw [← hl0] at R_v0 n0 hnc0 ⊢
  have HL0 := Lib.hid hl0
  clear hl0
  unfold maxLen at hcm0
  obtain ⟨t, ht⟩ : ∃ t, t = a1 % 3 := ⟨_, rfl⟩
  have ht0 : 0 ≤ t := by rw [ht]; exact Int.emod_nonneg _ (by decide)
  have ht3 : t < 3 := by rw [ht]; exact Int.emod_lt_of_pos _ (by decide)
  have HT := Lib.hid ht
  clear ht
  have R_k : Hid (Ro (w.alloc (.cells #[.int .i64 a1] 3)) (.slice (some ⟨w.heap.size, 0, none⟩) 1 1) [a1]) :=
    ⟨_, _, w.heap.size, 0, rfl, Nat.le_refl _, by unfold maxLen; omega, fun _ => ⟨rfl, by simp⟩, fun k x hx => by
      match k, hx with
      | 0, hx => simp at hx; subst hx; simp [go_sem]⟩
  have hal : Below w.heap.size w (w.alloc (.cells #[.int .i64 a1] 3)) := (Below.refl _ _).alloc (Nat.le_refl _) _
  go_enter Try.func9, Try.ntmps9
  go_wp2_with fail
  refine (sortRows_any _ _ x0 [a1] _ (R_v0.out.below hal) R_k.out (by rw [← HL0.out]; omega) (by simp)).mono ?_
  rintro e W1 ⟨u1, rfl, o1, b1⟩
  have bt1 : Below w.heap.size w W1 := hal.trans (b1.mono hal.size)
  replace R_v0 := Lib.hid (R_v0.out.below bt1)
  have R_u := Lib.hid o1.ros3
  obtain ⟨Au, cu, gu, rfl, hncu, hcmu, -⟩ := o1.shape
  have hlen : (rsort x0 [a1]).length = l0 := by rw [rsort_len, ← HL0.out]
  rw [hlen] at hncu R_u ⊢
  have HLU := Lib.hid hlen
  unfold maxLen at hcmu
  clear o1 b1 hlen R_k hal
  have hbw : Below W1.heap.size W1 ((W1.alloc (.cells #[] 3)).alloc (.cells #[] 3)) := ((Below.refl _ _).alloc (Nat.le_refl _) _).alloc (by simp) _
  have HOA0 := Lib.hid (show Own 3 W1.heap.size ((W1.alloc (.cells #[] 3)).alloc (.cells #[] 3)) (.slice (some ⟨W1.heap.size, 0, none⟩) 0 0) [] from World.ownsRow.alloc (ownE (e := 3) (size := 1) W1 (Nat.le_refl _)) _)
  have HOB0 := Lib.hid (show Own 3 (W1.heap.size + 1) ((W1.alloc (.cells #[] 3)).alloc (.cells #[] 3)) (.slice (some ⟨W1.heap.size + 1, 0, none⟩) 0 0) [] from ownE_at (e := 3) (size := 1) (W1.alloc (.cells #[] 3)) (by simp) _ (by simp))
  go_wp2_with fail
  go_loopg [6, 25] l0 (fun kx s6 s25 wr => ∃ (j k g cap : Nat) (L : List Int), s6 = .slice (some ⟨g, 0, none⟩) k cap ∧ s25 = .int .i64 j ∧ j ≤ l0 ∧ l0 - j ≤ kx ∧ k ≤ j ∧
    Hid (L = (x0.take j).map (keyOf t.toNat)) ∧ Hid (Out 3 W1.heap.size W1.heap.size ((W1.alloc (.cells #[] 3)).alloc (.cells #[] 3)) wr g k cap L))
  case atStart => exact ⟨0, 0, W1.heap.size, 0, [], rfl, rfl, Nat.zero_le _, by omega, Nat.le_refl _, rfl, Out.start HOA0.out⟩
  case round =>
    obtain ⟨j, k, g, cap, L, rfl, rfl, hj, hjk, hkj, HL, HO⟩ := hrel
    obtain ⟨hgB, hgl, hlc, hcap, hsz⟩ := HO.out.lt
    unfold maxLen at hcap
    have hbW : Below W1.heap.size W1 wr := HO.out.belowW hbw (Nat.le_refl _)
    by_cases hlt : j < l0
    · obtain ⟨p, q, r, hx⟩ : ∃ p q r, x0[j]? = some (p, q, r) := ⟨_, _, _, List.getElem?_eq_getElem (by rw [← HL0.out]; exact hlt)⟩
      obtain ⟨b, off, rfl, hc0, hc1, hc2, hbl⟩ := (R_v0.out.below hbW).at hx
      have HST := Lib.hid (map_take3 (f := keyOf t.toNat) hx)
      clear hx
      obtain ⟨y, hy⟩ : ∃ y, y = keyOf t.toNat (p, q, r) := ⟨_, rfl⟩
      have hix : ∀ W, Sem.run Try.prog (Instr.index 46 (.agg #[.int .i64 p, .int .i64 q, .int .i64 r]) (.int .i64 t)) W = .ok (.int .i64 y) W := fun W => by rw [hy]; exact idx_any p q r t W ht0 ht3
      have HYK := Lib.hid hy
      clear hy
      have HOD := Lib.hid (HO.out.below (((Below.refl wr.heap.size wr).alloc (Nat.le_refl _) (.cells #[.int .i64 p, .int .i64 q, .int .i64 r] 45)).drew))
      have hB1 : W1.heap.size ≤ wr.heap.size := hbW.size
      go_wp2_with fail
      go_region_law ((first
        | (refine step_app _ (by rfl) (.tmp 29) (.tmp 40) (by rfl) ints_ok W1.heap.size g k cap _ (by rfl) (HOD.out.row.alloc _) _ 1 1 [.int .i64 y] (by rfl) (Src.one_at _ _ _ _ (by simp)) (by unfold maxLen; omega) (by omega) (by simp; omega) (k + 1) rfl _ rfl ?_; intro g5 cap5 w5 hown5 hgrow5 hat5)
        | (go_simp; go_at_call 32; refine (specAt_any _ _ _ (by omega) (by omega)).mono ?_; rintro e w' ⟨rfl, rfl⟩; rw [← HT.out])))
      all_goals
        have HO5 := Lib.hid (HOD.out.app hown5 hgrow5 hat5)
        clear hown5 hgrow5 hat5
        go_wp2_with fail
        go_roundg (l0 - (j + 1))
        case measure => omega
        case rel => exact ⟨j + 1, k + 1, g5, cap5, L ++ [y], rfl, by go_num, by omega, by omega, by omega, (by show L ++ [y] = _; rw [HST.out, HL.out, HYK.out]), HO5.out⟩
    · obtain rfl : j = l0 := by omega
      have hfin : L = x0.map (keyOf t.toNat) := by rw [HL.out, List.take_of_length_le (by rw [← HL0.out]; exact Nat.le_refl _)]
      have hgne : g ≠ W1.heap.size + 1 := by
        rcases HO.out.2.2.1 with e | e
        · omega
        · simp at e; omega
      have HA := Lib.hid (show Own 3 W1.heap.size wr (.slice (some ⟨g, 0, none⟩) k cap) (x0.map (keyOf t.toNat)) by have h := HO.out.2.1; rw [hfin] at h; exact h)
      have HBB := Lib.hid (HO.out.own HOB0.out (Nat.lt_succ_self _))
      obtain ⟨W2, hW2⟩ : ∃ W2, W2 = wr := ⟨_, rfl⟩
      rw [← hW2] at HA HBB hbW hsz ⊢
      have hs2 : W1.heap.size + 2 ≤ W2.heap.size := by simpa using hsz
      clear hW2 HO HL hfin HOA0 HOB0 hgl
      go_wp2_with fail
      go_loopg [7, 45] j (fun kx s7 s45 wr => ∃ (i k2 g2 cap2 : Nat) (L2 : List Int), s7 = .slice (some ⟨g2, 0, none⟩) k2 cap2 ∧ s45 = .int .i64 i ∧ i ≤ j ∧ j - i ≤ kx ∧ k2 ≤ i ∧
        Hid (L2 = ((rsort x0 [a1]).take i).map (keyOf t.toNat)) ∧ Hid (Out 3 (W1.heap.size + 1) (W1.heap.size + 1) W2 wr g2 k2 cap2 L2))
      case atStart => exact ⟨0, 0, W1.heap.size + 1, 0, [], rfl, rfl, Nat.zero_le _, by omega, Nat.le_refl _, rfl, Out.start HBB.out⟩
      case round =>
        obtain ⟨i, k2, g2, cap2, L2, rfl, rfl, hi, hik, hki, HL2, HO2⟩ := hrel
        clear hsz hlc hcap
        obtain ⟨hgB2, hgl2, hlc2, hcap2, hsz2⟩ := HO2.out.lt
        unfold maxLen at hcap2
        have hbW2 := hbW
        replace hbW : Below W1.heap.size W1 wr := HO2.out.belowW hbW2 (Nat.le_succ _)
        by_cases hlt : i < j
        · obtain ⟨p, q, r, hx⟩ : ∃ p q r, (rsort x0 [a1])[i]? = some (p, q, r) := ⟨_, _, _, List.getElem?_eq_getElem (by rw [HLU.out]; exact hlt)⟩
          obtain ⟨b, off, rfl, hc0, hc1, hc2, hbl⟩ := (R_u.out.below hbW).at hx
          have HST := Lib.hid (map_take3 (f := keyOf t.toNat) hx)
          clear hx
          obtain ⟨y, hy⟩ : ∃ y, y = keyOf t.toNat (p, q, r) := ⟨_, rfl⟩
          have hix : ∀ W, Sem.run Try.prog (Instr.index 46 (.agg #[.int .i64 p, .int .i64 q, .int .i64 r]) (.int .i64 t)) W = .ok (.int .i64 y) W := fun W => by rw [hy]; exact idx_any p q r t W ht0 ht3
          have HYK := Lib.hid hy
          clear hy
          have HOD := Lib.hid (HO2.out.below (((Below.refl wr.heap.size wr).alloc (Nat.le_refl _) (.cells #[.int .i64 p, .int .i64 q, .int .i64 r] 45)).drew))
          have hB1 : W1.heap.size ≤ wr.heap.size := hbW.size
          go_wp2_with fail
          go_region_law ((first
            | (refine step_app _ (by rfl) (.tmp 49) (.tmp 60) (by rfl) ints_ok (W1.heap.size + 1) g2 k2 cap2 _ (by rfl) (HOD.out.row.alloc _) _ 1 1 [.int .i64 y] (by rfl) (Src.one_at _ _ _ _ (by simp)) (by unfold maxLen; omega) (by omega) (by simp; omega) (k2 + 1) rfl _ rfl ?_; intro g5 cap5 w5 hown5 hgrow5 hat5)
            | (go_simp; go_at_call 32; refine (specAt_any _ _ _ (by omega) (by omega)).mono ?_; rintro e w' ⟨rfl, rfl⟩; rw [← HT.out])))
          all_goals
            have cc0 := hgrow5.cell (a := ⟨wr.heap.size, 0, none⟩) (v := .int .i64 p) (by simp [go_sem]) (fun e => by injection e with e; simp only at e; omega)
            have cc1 := hgrow5.cell (a := ⟨wr.heap.size, 1, none⟩) (v := .int .i64 q) (by simp [go_sem]) (fun e => by injection e with e; simp only at e; omega)
            have cc2 := hgrow5.cell (a := ⟨wr.heap.size, 2, none⟩) (v := .int .i64 r) (by simp [go_sem]) (fun e => by injection e with e; simp only at e; omega)
            have HO5 := Lib.hid (HOD.out.app hown5 hgrow5 hat5)
            clear hown5 hgrow5 hat5
            obtain ⟨bs, hbs⟩ : ∃ bs, bs = wr.heap.size := ⟨_, rfl⟩
            rw [← hbs] at cc0 cc1 cc2 ⊢
            have hbs5 : bs < w5.heap.size := World.block_lt_of_cell? _ _ cc0
            have HCC := Lib.hid (And.intro cc0 (And.intro cc1 cc2))
            have hbW5 : Below W1.heap.size W1 w5 := HO5.out.belowW hbW2 (Nat.le_succ _)
            clear cc0 cc1 cc2 hbs hix HOD HO2 hbW hbW2 hgl2 hsz2 hc0 hc1 hc2
            go_wp2_with fail
            go_loopg [12, 64] j (fun kx s12 s64 wr => ∃ (u c : Nat), s12 = .int .i64 c ∧ s64 = .int .i64 u ∧ u ≤ j ∧ j - u ≤ kx ∧ c ≤ u ∧ Below w5.heap.size w5 wr ∧ Hid (c = cntR (x0.take u) (p, q, r)))
            case atStart => exact ⟨0, 0, rfl, rfl, Nat.zero_le _, by omega, Nat.le_refl _, Below.refl _ _, rfl⟩
            case round =>
              obtain ⟨u, c, rfl, rfl, hu, huk, hcu, hb5, HC⟩ := hrel
              have hz5 := hb5.size
              have hbsn : ¬ bs = wr.heap.size := by omega
              have hbsl : bs < wr.heap.size := by omega
              have cd0 := (hb5.cell (p := ⟨bs, 0, none⟩) hbs5).trans HCC.out.1
              have cd1 := (hb5.cell (p := ⟨bs, 1, none⟩) hbs5).trans HCC.out.2.1
              have cd2 := (hb5.cell (p := ⟨bs, 2, none⟩) hbs5).trans HCC.out.2.2
              by_cases hul : u < j
              · obtain ⟨p', q', r', hx⟩ : ∃ p q r, x0[u]? = some (p, q, r) := ⟨_, _, _, List.getElem?_eq_getElem (by rw [← HL0.out]; exact hul)⟩
                obtain ⟨b2, off2, e2, hd0, hd1, hd2, hbl2⟩ := (R_v0.out.below (hbW5.trans (hb5.mono hbW5.size))).at hx
                subst e2
                have HSTC := Lib.hid (cntR_take (s := (p, q, r)) hx)
                have hbA : Below w5.heap.size w5 (wr.alloc (.cells #[.int .i64 p', .int .i64 q', .int .i64 r'] 45)) := hb5.alloc hb5.size _
                clear hx
                by_cases heq : (p', q', r') = (p, q, r)
                · have HN : Hid (c + 1 = cntR (x0.take (u + 1)) (p, q, r)) := by show c + 1 = _; rw [HSTC.out, if_pos heq, HC.out]
                  injection heq with e1 e3
                  injection e3 with e3 e4
                  subst e1 e3 e4
                  go_wp2_with fail
                  go_roundg (j - (u + 1))
                  case measure => omega
                  case rel => exact ⟨u + 1, c + 1, by go_num, by go_num, by omega, by omega, by omega, hbA, HN.out⟩
                · have HN : Hid (c = cntR (x0.take (u + 1)) (p, q, r)) := by show c = _; rw [HSTC.out, if_neg heq, HC.out]; rfl
                  have hne : (p' == p && (q' == q && r' == r)) = false := by
                    cases h : (p' == p && (q' == q && r' == r)) with
                    | false => rfl
                    | true => simp at h; exact absurd (by rw [h.1, h.2.1, h.2.2]) heq
                  have hne2 : ((p' == p && q' == q) && r' == r) = false := by rw [Bool.and_assoc]; exact hne
                  have hne3 : p' = p → q' = q → ¬ r' = r := fun e1 e2 e3 => heq (by rw [e1, e2, e3])
                  go_wp2_with fail
                  all_goals
                    go_roundg (j - (u + 1))
                    case measure => omega
                    case rel => exact ⟨u + 1, c, rfl, by go_num, by omega, by omega, by omega, hb5.alloc hb5.size _, HN.out⟩
              · obtain rfl : u = j := by omega
                have HCE : Hid (c = cntR x0 (p, q, r)) := by
                  have h := HC.out
                  rw [List.take_of_length_le (by rw [← HL0.out]; exact Nat.le_refl _)] at h
                  exact h
                obtain ⟨W6, hW6⟩ : ∃ W6, W6 = wr := ⟨_, rfl⟩
                rw [← hW6] at hb5 ⊢
                clear HC hW6 cd0 cd1 cd2 hbsn hbsl hz5
                go_wp2_with fail
                go_loopg [12, 76] u (fun kx s12 s76 wr => ∃ (v c2 : Nat) (z : Int), s12 = .int .i64 z ∧ s76 = .int .i64 v ∧ z = (c : Int) - (c2 : Int) ∧ v ≤ u ∧ u - v ≤ kx ∧ c2 ≤ v ∧ Below w5.heap.size w5 wr ∧ Hid (c2 = cntR ((rsort x0 [a1]).take v) (p, q, r)))
                case atStart => exact ⟨0, 0, (c : Int), rfl, rfl, by omega, Nat.zero_le _, by omega, Nat.le_refl _, hb5, rfl⟩
                case round =>
                  clear hb5
                  obtain ⟨v, c2, z, rfl, rfl, hz, hv, hvk, hc2v, hb5, HC2⟩ := hrel
                  have hz5 := hb5.size
                  have hbsn : ¬ bs = wr.heap.size := by omega
                  have hbsl : bs < wr.heap.size := by omega
                  have cd0 := (hb5.cell (p := ⟨bs, 0, none⟩) hbs5).trans HCC.out.1
                  have cd1 := (hb5.cell (p := ⟨bs, 1, none⟩) hbs5).trans HCC.out.2.1
                  have cd2 := (hb5.cell (p := ⟨bs, 2, none⟩) hbs5).trans HCC.out.2.2
                  have hzb1 : -4611686018427387904 ≤ z := by omega
                  have hzb2 : z ≤ 4611686018427387904 := by omega
                  have HZ := Lib.hid hz
                  clear hz
                  by_cases hvl : v < u
                  · obtain ⟨p', q', r', hx⟩ : ∃ p q r, (rsort x0 [a1])[v]? = some (p, q, r) := ⟨_, _, _, List.getElem?_eq_getElem (by rw [HLU.out]; exact hvl)⟩
                    obtain ⟨b2, off2, e2, hd0, hd1, hd2, hbl2⟩ := (R_u.out.below (hbW5.trans (hb5.mono hbW5.size))).at hx
                    simp only [Option.some.injEq, Addr.mk.injEq, and_true] at e2
                    obtain ⟨rfl, rfl⟩ := e2
                    have HSTC := Lib.hid (cntR_take (s := (p, q, r)) hx)
                    have hbA : Below w5.heap.size w5 (wr.alloc (.cells #[.int .i64 p', .int .i64 q', .int .i64 r'] 45)) := hb5.alloc hb5.size _
                    clear hx
                    by_cases heq : (p', q', r') = (p, q, r)
                    · have HN : Hid (c2 + 1 = cntR ((rsort x0 [a1]).take (v + 1)) (p, q, r)) := by show c2 + 1 = _; rw [HSTC.out, if_pos heq, HC2.out]
                      injection heq with e1 e3
                      injection e3 with e3 e4
                      subst e1 e3 e4
                      go_wp2_with fail
                      go_roundg (u - (v + 1))
                      case measure => omega
                      case rel => exact ⟨v + 1, c2 + 1, z - 1, rfl, by go_num, by have := HZ.out; omega, by omega, by omega, by omega, hbA, HN.out⟩
                    · have HN : Hid (c2 = cntR ((rsort x0 [a1]).take (v + 1)) (p, q, r)) := by show c2 = _; rw [HSTC.out, if_neg heq, HC2.out]; rfl
                      have hne : (p' == p && (q' == q && r' == r)) = false := by
                        cases h : (p' == p && (q' == q && r' == r)) with
                        | false => rfl
                        | true => simp at h; exact absurd (by rw [h.1, h.2.1, h.2.2]) heq
                      have hne2 : ((p' == p && q' == q) && r' == r) = false := by rw [Bool.and_assoc]; exact hne
                      have hne3 : p' = p → q' = q → ¬ r' = r := fun e1 e2 e3 => heq (by rw [e1, e2, e3])
                      go_wp2_with fail
                      all_goals
                        go_roundg (u - (v + 1))
                        case measure => omega
                        case rel => exact ⟨v + 1, c2, z, rfl, by go_num, HZ.out, by omega, by omega, by omega, hb5.alloc hb5.size _, HN.out⟩
                  · obtain rfl : v = u := by omega
                    have hzero : z = 0 := by
                      have h := HC2.out
                      rw [List.take_of_length_le (by rw [HLU.out]; exact Nat.le_refl _), cntR_perm (rsort_perm x0 [a1]) (p, q, r), ← HCE.out] at h
                      have := HZ.out
                      omega
                    have HO6 := Lib.hid (HO5.out.below hb5)
                    have HN : Hid (L2 ++ [y] = ((rsort x0 [a1]).take (i + 1)).map (keyOf t.toNat)) := by show L2 ++ [y] = _; rw [HST.out, HL2.out, HYK.out]
                    subst hzero
                    clear HZ hzb1 hzb2
                    go_wp2_with fail
                    go_roundg (v - (i + 1))
                    case measure => omega
                    case rel => exact ⟨i + 1, k2 + 1, g5, cap5, L2 ++ [y], rfl, by go_num, by omega, by omega, by omega, HN.out, HO6.out⟩
        · obtain rfl : i = j := by omega
          have HA2 := Lib.hid (show Own 3 W1.heap.size wr (.slice (some ⟨g, 0, none⟩) k cap) (x0.map (keyOf t.toNat)) from World.ownsRow.kept HA.out HO2.out.2.2.2 (.inr (by simp [Value.ownBlock]; exact hgne)))
          have HB2 : Hid (Own 3 (W1.heap.size + 1) wr (.slice (some ⟨g2, 0, none⟩) k2 cap2) ((rsort x0 [a1]).map (keyOf t.toNat))) := by
            have h := HO2.out.2.1
            rw [HL2.out, List.take_of_length_le (by rw [HLU.out]; exact Nat.le_refl _)] at h
            exact h
          have bt2 : Below w.heap.size w wr := bt1.trans (hbW.mono bt1.size)
          go_wp2_with fail
          refine (ascending_any _ (x0.map (keyOf t.toNat)) _ HA2.out.ro (by rw [List.length_map, ← HL0.out]; omega)).mono ?_
          rintro e W7 ⟨v7, rfl, o7, b7⟩
          have bt7 : Below w.heap.size w W7 := bt2.trans (b7.mono bt2.size)
          have HR7 := Lib.hid o7.ro
          have HR8 := Lib.hid (HB2.out.ro.below b7)
          clear o7 b7 bt2
          go_wp2_with fail
          refine (same_yes _ _ _ _ _ HR7.out HR8.out (by rw [HT.out]; exact (rows_keys x0 a1).symm)).mono ?_
          rintro e W8 ⟨rfl, b8⟩
          have bt8 : Below w.heap.size w W8 := bt7.trans (b8.mono bt7.size)
          clear b8 bt7
          go_wp2_with fail
          refine (works_any _).mono ?_
          rintro e W9 ⟨rfl, b9⟩
          go_wp2_with fail
          go_ret
          exact ⟨rfl, bt8.trans (b9.mono bt8.size)⟩

end Go.Proofs.Ytiioojnoggcnmaa

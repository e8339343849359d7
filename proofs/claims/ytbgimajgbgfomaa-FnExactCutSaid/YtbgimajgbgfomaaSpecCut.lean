/-
  What is proved here: the contract of the reference's Cut and the walk of the exact law on Cut; condition of the contract: at most 2^21 loads.
-/
import Derived.Test.YtbgimajgbgfomaaCut
import Derived.Test.YtbgimajgbgfomaaPiles
import Derived.Deep.RegionLaw
namespace Go.Proofs.Ytbgimajgbgfomaa
open Go.RowKit
set_option linter.unusedVariables false

/-- Natural numbers as a row of integers. -/
def nat (l : List Nat) : List Int := l.map (fun (n : Nat) => (n : Int))
theorem nat_at {l : List Nat} {k n : Nat} (h : l[k]? = some n) : (nat l)[k]? = some (n : Int) := by unfold nat; rw [List.getElem?_map, h]; rfl
theorem nat_snoc (l : List Nat) (n : Nat) : nat (l ++ [n]) = nat l ++ [(n : Int)] := by simp [nat]
theorem nat_len (l : List Nat) : (nat l).length = l.length := by simp [nat]

/-- The first sums. -/
def sums (ls : List Nat) (j : Nat) : List Nat := (List.range (j + 1)).map (fun i => (ls.take i).sum)
theorem sums_len (ls : List Nat) (j : Nat) : (sums ls j).length = j + 1 := by simp [sums]
theorem sums_last (ls : List Nat) (j : Nat) : (sums ls j)[j]? = some (ls.take j).sum := by simp [sums]
theorem sums_succ (ls : List Nat) (j : Nat) : sums ls (j + 1) = sums ls j ++ [(ls.take (j + 1)).sum] := by simp [sums, List.range_succ]
theorem sums_good (ls : List Nat) (j : Nat) : Good 0 ls (sums ls j) := by
  intro i c h
  unfold sums at h
  rw [List.getElem?_map] at h
  obtain ⟨k, hk, rfl⟩ := Option.map_eq_some_iff.1 h
  obtain ⟨hk1, hk2⟩ := List.getElem?_eq_some_iff.1 hk
  simp at hk2
  subst hk2
  exact isCut_one _

set_option maxRecDepth 100000 in
set_option maxHeartbeats 4000000 in
theorem specCut_any (v : Value) (xs : List Int) (k : Int) (q : Nat) (w : World) (h : Ro w v xs) (hn : xs.length ≤ 2097152) (hk : k % 10 = (q : Int)) :
    Calls Try.prog 29 #[v, .int .i64 k] w (CutIs q (lds xs) w) := by
  obtain ⟨A, c, b, off, rfl, hnc, hcm, ha, hcell⟩ := h
  obtain ⟨n, hxn⟩ : ∃ n, n = xs.length := ⟨_, rfl⟩
  rw [← hxn] at hn hnc ha ⊢
  have HX := Lib.hid hxn
  have HC := Lib.hid hcell
  have HA := Lib.hid ha
  have HK := Lib.hid hk
  have hq9 : q < 10 := by omega
  clear hxn hcell ha hk
  unfold maxLen at hcm
  go_enter Try.func29, Try.ntmps29
  go_wp2_with fail
  go_loopg [5, 17] n (fun kx s5 s17 wr => ∃ (j N g cap : Nat), s17 = .int .i64 j ∧ s5 = .slice (some ⟨g, 0, none⟩) N cap ∧ j ≤ n ∧ n - j ≤ kx ∧ N ≤ n + 1 ∧ j < N ∧ Below w.heap.size w wr ∧ Hid (N = j + 1) ∧ Hid (Own 3 w.heap.size wr (.slice (some ⟨g, 0, none⟩) N cap) (nat (sums (lds xs) j))))
  case atStart =>
    refine ⟨0, 1, w.heap.size, 1, rfl, rfl, Nat.zero_le _, by omega, by omega, by omega, (Below.refl _ _).alloc (Nat.le_refl _) _, rfl, ?_⟩
    exact World.ownsRow_lit (e := 3) (size := 1) w #[.int .i64 0] 1 (Nat.le_refl _) (by unfold maxLen; omega) rfl
  case round =>
    obtain ⟨j, N, g, cap, rfl, rfl, hj, hjk, hN1, hN2, hb, HNJ, HO⟩ := hrel
    have hbs := hb.size
    obtain ⟨hgB, hgl, hll, hlc, hcap⟩ := own_lt HO.out
    unfold maxLen at hcap
    have HLL := Lib.hid hll
    clear hll
    by_cases hlt : j < n
    · obtain ⟨x, hxj⟩ : ∃ x, xs[j]? = some x := ⟨xs[j]'(by have := HX.out; omega), List.getElem?_eq_getElem _⟩
      obtain ⟨rfl, hbl⟩ := HA.out (by omega)
      have hc : wr.cell? ⟨b, off + j, none⟩ = some (.int .i64 x) := (hb.cell (p := ⟨b, off + j, none⟩) hbl).trans (HC.out j x hxj)
      obtain ⟨l, hl⟩ := Int.eq_ofNat_of_zero_le (show 0 ≤ x % 1000 by omega)
      have hl9 : l < 1000 := by omega
      have hT := lds_at hxj hl
      have hsum := lds_sum xs j
      generalize hsj : ((lds xs).take j).sum = sj at hsum
      have hcs : wr.cell? ⟨g, N - 1, none⟩ = some (.int .i64 (sj : Int)) := (own_cell HO.out (nat_at (by rw [← hsj, HNJ.out]; exact sums_last _ _))).1
      have HN := Lib.hid (show nat (sums (lds xs) (j + 1)) = nat (sums (lds xs) j) ++ [(sj : Int) + (l : Int)] by rw [sums_succ, nat_snoc, hT, List.sum_append, hsj]; simp)
      have HL := Lib.hid hl
      clear hxj hl hT hsj
      have hown : wr.ownsRow w.heap.size 3 1 (.slice (some ⟨g, 0, none⟩) N cap) N ((nat (sums (lds xs) j)).map (Value.int .i64)) := by
        have h1 := HO.out
        unfold Own at h1
        rwa [HLL.out] at h1
      have HOW := Lib.hid hown
      clear hown
      have y1 : IntKind.i64.wrap ((N : Int) - 1) = (N : Int) - 1 := IntWalk.i64_in _ (by omega)
      have y2 : (0 : Int) ≤ (N : Int) - 1 := by omega
      have y2' : (1 : Int) ≤ (N : Int) := by omega
      have y3 : (N : Int) - 1 < (N : Int) := by omega
      have y5 : ((N : Int) - 1).toNat = N - 1 := by omega
      have y4 : IntKind.i64.wrap ((sj : Int) + (l : Int)) = (sj : Int) + (l : Int) := IntWalk.i64_in _ (by omega)
      go_wp2_with fail
      go_region_law (first
          | (refine step_app _ (by rfl) (.tmp 21) (.tmp 31) (by rfl) ints_ok w.heap.size g N cap _ (by rfl) (HOW.out.alloc _).drew _ 1 1 [.int .i64 ((sj : Int) + (l : Int))] (by rfl) (Src.one_at _ _ _ _ (by simp)).drew (by unfold maxLen; omega) (by omega) (by simp; omega) (N + 1) rfl _ rfl ?_
             intro g2 cap2 w2 hown2 hgrow2 hat2)
          | (go_simp; go_at_call 25; refine (specAt_any _ _ _ (by omega) (by omega)).mono ?_; rintro e w' ⟨rfl, rfl⟩; rw [HL.out]))
      clear y1 y2 y2' y3 y4 y5
      all_goals
        have hb2 : Below w.heap.size w w2 := below_app hgrow2 hgB (hb.alloc hbs _).drew
        have ho2 : Own 3 w.heap.size w2 (.slice (some ⟨g2, 0, none⟩) (N + 1) cap2) (nat (sums (lds xs) (j + 1))) := by
          unfold Own
          rw [HN.out, List.length_append, List.map_append, HLL.out]
          exact hown2
        have HO2 := Lib.hid ho2
        clear ho2 hown2 hgrow2 hat2
        go_wp2_with fail
        go_roundg (n - (j + 1))
        case measure => omega
        case rel => exact ⟨j + 1, N + 1, g2, cap2, by go_num, rfl, by omega, by omega, (by have := HNJ.out; omega), by omega, hb2, (by have := HNJ.out; show N + 1 = j + 1 + 1; omega), HO2.out⟩
    · obtain rfl : j = n := by omega
      have HG0 := Lib.hid (sums_good (lds xs) j)
      have HNB := Lib.hid (show (nat (sums (lds xs) j)).length = j + 1 by rw [nat_len, sums_len])
      go_wp2_with fail
      refine (specAt_any _ _ _ (by omega) (by omega)).mono ?_
      rintro e w' ⟨rfl, rfl⟩
      rw [HK.out]
      go_wp2_with fail
      go_loopg [5, 8] q (fun kx s5 s8 wo => ∃ (p r g cap : Nat) (B : List Nat), s8 = .int .i64 p ∧ s5 = .slice (some ⟨g, 0, none⟩) (j + 1) cap ∧ p + r = q ∧ p ≤ kx ∧ Below w.heap.size w wo ∧ Hid (B.length = j + 1) ∧ Hid (Good r (lds xs) B) ∧ Hid (Own 3 w.heap.size wo (.slice (some ⟨g, 0, none⟩) (j + 1) cap) (nat B)))
      case atStart =>
        obtain rfl : N = j + 1 := HNJ.out
        exact ⟨q, 0, g, cap, sums (lds xs) j, rfl, rfl, by omega, Nat.le_refl _, hb, sums_len _ _, HG0.out, HO.out⟩
      case round =>
        obtain ⟨p, r, g3, cap3, B, rfl, rfl, hpr, hpk, hbo, HBL, HGD, HOB⟩ := hrel
        clear HO HG0 HNB HLL HNJ hgB hgl hlc hcap hN1 hN2 hb hbs hj hjk hlt
        obtain ⟨wo, rfl⟩ : ∃ wo : World, wo = wr := ⟨_, rfl⟩
        have hbs := hbo.size
        obtain ⟨hgB, hgl, hll, hlc, hcap⟩ := own_lt HOB.out
        unfold maxLen at hcap
        clear hll
        have hcells : ∀ t, t ≤ j → ∃ b, B[t]? = some b ∧ wo.cell? ⟨g3, t, none⟩ = some (.int .i64 (b : Int)) := by
          intro t ht
          have htl : t < B.length := by rw [HBL.out]; omega
          exact ⟨B[t], List.getElem?_eq_getElem htl, (own_cell HOB.out (nat_at (List.getElem?_eq_getElem htl))).1⟩
        have HCL := Lib.hid hcells
        clear hcells
        by_cases hp0 : 0 < p
        · go_wp2_with fail
          go_loopg [9, 10] (j + 1) (fun kx s9 s10 wq => ∃ (i g2 cap2 : Nat) (N : List Nat), s9 = .slice (some ⟨g2, 0, none⟩) i cap2 ∧ s10 = .int .i64 i ∧ 1 ≤ i ∧ i ≤ j + 1 ∧ j + 1 - i ≤ kx ∧ Below wo.heap.size wo wq ∧ Hid (Good (r + 1) (lds xs) N) ∧ Hid (Own 3 wo.heap.size wq (.slice (some ⟨g2, 0, none⟩) i cap2) (nat N)))
          case atStart =>
            refine ⟨1, wo.heap.size, 1, [0], rfl, rfl, by omega, by omega, by omega, (Below.refl _ _).alloc (Nat.le_refl _) _, ?_, ?_⟩
            · intro t c ht
              obtain rfl : t = 0 := by have := (List.getElem?_eq_some_iff.1 ht).1; simp at this; exact this
              simp at ht
              subst ht
              exact fun m => ⟨fun _ => by simpa using C_nil _ m, fun _ => Nat.zero_le _⟩
            · exact World.ownsRow_lit (e := 3) (size := 1) wo #[.int .i64 0] 1 (Nat.le_refl _) (by unfold maxLen; omega) rfl
          case round =>
            obtain ⟨i, g2, cap2, N2, rfl, rfl, hi1, hij, hik, hb, HGN, HON⟩ := hrel
            obtain ⟨wi, rfl⟩ : ∃ wi : World, wi = wr := ⟨_, rfl⟩
            have hbis := hb.size
            obtain ⟨hg2B, hg2l, hll2, hlc2, hcap2⟩ := own_lt HON.out
            unfold maxLen at hcap2
            have HLL := Lib.hid hll2
            clear hll2
            by_cases hilt : i ≤ j
            · obtain ⟨b0, hb0, hcb0⟩ := HCL.out i hilt
              have hci : wi.cell? ⟨g3, i, none⟩ = some (.int .i64 (b0 : Int)) := (hb.cell (p := ⟨g3, i, none⟩) hgl).trans hcb0
              have HM0 := Lib.hid (mid_start (HGD.out i b0 hb0))
              clear hb0 hcb0
              go_wp2_with fail
              go_loopg [11, 12, 13] i (fun kx s11 s12 s13 wz => ∃ (k1 v s : Nat) (z : Int), s11 = .int .i64 v ∧ s12 = .int .i64 s ∧ s13 = .int .i64 z ∧ z = (k1 : Int) - 1 ∧ k1 ≤ i ∧ k1 ≤ kx ∧ wz = wi ∧ Hid (s = (((lds xs).take i).drop k1).sum) ∧ Hid (Mid r (lds xs) i k1 v))
              case atStart => exact ⟨i, b0, 0, _, rfl, rfl, rfl, by go_num, Nat.le_refl _, Nat.le_refl _, rfl, by show 0 = _; rw [List.drop_of_length_le (by rw [List.length_take]; omega)]; rfl, HM0.out⟩
              case round =>
                obtain ⟨k1, v, s, z, rfl, rfl, rfl, hz, hk1, hkk, rfl, HS, HM⟩ := hrel
                rcases Nat.eq_zero_or_pos k1 with hk0 | hk0
                · subst hk0
                  have hzn : z < 0 := by omega
                  clear hz
                  have hme := mid_end HM.out (by rw [lds_len, ← HX.out]; exact hilt)
                  have HME := Lib.hid hme
                  clear hme
                  have hown : wr.ownsRow wo.heap.size 3 1 (.slice (some ⟨g2, 0, none⟩) i cap2) i ((nat N2).map (Value.int .i64)) := by
                    have := HON.out; unfold Own at this; rwa [HLL.out] at this
                  have HOW := Lib.hid hown
                  clear hown
                  go_wp2_with (at_builtin; refine wpList_app _ rfl (.tmp 72) (.tmp 74) rfl ints_ok wo.heap.size g2 i cap2 ((nat N2).map (Value.int .i64)) (by rfl) (HOW.out.alloc _) _ 1 1 [.int .i64 (v : Int)] (by rfl) (Src.one _ _ _) (by unfold maxLen; omega) (by omega) (by simp; omega) (i + 1) rfl _ rfl ?_; intro g4 cap4 w4 hown4 hgrow4 hat4)
                  have hb4 : Below wo.heap.size wo w4 := below_app hgrow4 hg2B (hb.alloc hbis _)
                  have ho4 : Own 3 wo.heap.size w4 (.slice (some ⟨g4, 0, none⟩) (i + 1) cap4) (nat (N2 ++ [v])) := by
                    unfold Own
                    rw [nat_snoc, List.length_append, HLL.out, List.map_append]
                    exact hown4
                  have HO4 := Lib.hid ho4
                  clear ho4 hown4 hgrow4 hat4
                  go_wp2_with fail
                  go_roundg (j + 1 - (i + 1))
                  case measure => omega
                  case rel =>
                    refine ⟨i + 1, g4, cap4, N2 ++ [v], rfl, by go_num, by omega, by omega, Nat.le_refl _, hb4, ?_, HO4.out⟩
                    intro t c ht
                    have hlen : N2.length = i := by rw [← nat_len]; exact HLL.out
                    rcases Nat.lt_or_ge t i with h | h
                    · rw [List.getElem?_append_left (by omega)] at ht
                      exact HGN.out t c ht
                    · have h2 := (List.getElem?_eq_some_iff.1 ht).1
                      rw [List.length_append, hlen] at h2
                      obtain rfl : t = i := by simp at h2; omega
                      rw [List.getElem?_append_right (by omega), hlen] at ht
                      simp at ht
                      subst ht
                      exact HME.out
                · obtain ⟨t, rfl⟩ : ∃ t, k1 = t + 1 := ⟨k1 - 1, by omega⟩
                  obtain rfl : z = (t : Int) := by omega
                  clear hz
                  obtain ⟨x, hxt⟩ : ∃ x, xs[t]? = some x := ⟨xs[t]'(by have := HX.out; omega), List.getElem?_eq_getElem _⟩
                  obtain ⟨rfl, hbl⟩ := HA.out (by omega)
                  have hc : wr.cell? ⟨b, off + t, none⟩ = some (.int .i64 x) := (hb.cell (p := ⟨b, off + t, none⟩) (by simp; omega)).trans ((hbo.cell (p := ⟨b, off + t, none⟩) hbl).trans (HC.out t x hxt))
                  obtain ⟨l, hl⟩ := Int.eq_ofNat_of_zero_le (show 0 ≤ x % 1000 by omega)
                  have hl9 : l < 1000 := by omega
                  have hlt : (lds xs)[t]? = some l := by unfold lds; rw [List.getElem?_map, hxt]; simp [hl]
                  obtain ⟨b1, hb1, hcb1⟩ := HCL.out t (by omega)
                  have hct : wr.cell? ⟨g3, t, none⟩ = some (.int .i64 (b1 : Int)) := (hb.cell (p := ⟨g3, t, none⟩) hgl).trans hcb1
                  have hsd := sum_drop hlt (show t < i by omega)
                  rw [← HS.out] at hsd
                  have hsb : l + s ≤ 999 * i := by
                    rw [← hsd]
                    have h1 := sum_take_drop ((lds xs).take i) t
                    have h2 := lds_sum xs i
                    omega
                  have hms := mid_step HM.out (by omega) (HGD.out t b1 hb1) rfl
                  rw [hsd] at hms
                  have HMS := Lib.hid hms
                  have HSD := Lib.hid hsd
                  have HL := Lib.hid hl
                  clear hms hsd hl hlt hb1 hcb1 hxt
                  go_wp2_with fail
                  refine (specAt_any _ _ _ (by omega) (by omega)).mono ?_
                  rintro e w' ⟨rfl, rfl⟩
                  rw [HL.out]
                  rcases Nat.lt_or_ge b1 (l + s) with hmx | hmx
                  all_goals
                    go_wp2_with fail
                    all_goals go_roundg t
                    all_goals first | omega | skip
                    all_goals exact ⟨t, min v (max b1 (l + s)), l + s, (t : Int) - 1, by congr 1; omega, by congr 1; omega, by go_num, rfl, by omega, Nat.le_refl _, rfl, HSD.out.symm, HMS.out⟩
            · have hfin : i = j + 1 := by omega
              subst hfin
              have hb2 : Below w.heap.size w wi := hbo.trans (hb.mono hbs)
              have HO2 := Lib.hid (HON.out.mono hbs)
              go_wp2_with fail
              go_roundg (p - 1)
              case measure => omega
              case rel => exact ⟨p - 1, r + 1, g2, cap2, N2, by go_num, rfl, by omega, Nat.le_refl _, hb2, by show N2.length = _; rw [← nat_len]; exact HLL.out, HGN.out, HO2.out⟩
        · obtain ⟨b1, hb1, hcb1⟩ := HCL.out j (Nat.le_refl _)
          have hcut := HGD.out j b1 hb1
          rw [List.take_of_length_le (by rw [lds_len, ← HX.out]; exact Nat.le_refl _)] at hcut
          have HCU := Lib.hid hcut
          clear hcut hb1
          go_wp2_with fail
          go_ret
          obtain rfl : r = q := by omega
          exact ⟨b1, rfl, HCU.out, isCut_le HCU.out, hbo⟩

end Go.Proofs.Ytbgimajgbgfomaa

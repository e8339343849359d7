/-
  What is proved here: the contract of the reference's Merge: it returns the merged spans; condition: at most 2^43 - 1 spans.
-/
import Derived.Test.YtpkdjdofbedncaaSpans
import Derived.Test.YtpkdjdofbedncaaSpecMergePlain
import Derived.Test.YtpkdjdofbedncaaSpecUnite
namespace Go.Proofs.Ytpkdjdofbedncaa
open Go.RowKit
set_option linter.unusedVariables false

/-- What the inner loop has found, up to k. -/
def firstUpto (l : List (Int × Int)) (p q : Int) (k : Nat) : Bool := decide (p < q) && (l.take k).all fun o => !decide (o.1 < p ∧ p ≤ o.2)
theorem firstUpto_zero (l : List (Int × Int)) (p q : Int) : firstUpto l p q 0 = decide (p < q) := by simp [firstUpto]
theorem firstUpto_hit {l : List (Int × Int)} {p q a b : Int} {k : Nat} (h : l[k]? = some (a, b)) (h1 : a < p) (h2 : p ≤ b) : firstUpto l p q (k + 1) = false := by
  unfold firstUpto
  rw [List.take_add_one, h, List.all_append]
  simp [h1, h2]
theorem firstUpto_miss {l : List (Int × Int)} {p q a b : Int} {k : Nat} (h : l[k]? = some (a, b)) (h1 : ¬ (a < p ∧ p ≤ b)) : firstUpto l p q (k + 1) = firstUpto l p q k := by
  unfold firstUpto
  rw [List.take_add_one, h, List.all_append]
  have : (decide (a < p ∧ p ≤ b)) = false := decide_eq_false h1
  simp only [Option.toList_some, List.all_cons, List.all_nil, Bool.and_true, this, Bool.not_false]
theorem firstUpto_end {l : List (Int × Int)} {p q : Int} {k : Nat} (h : l.length ≤ k) : firstUpto l p q k = isFirst l (p, q) := by
  unfold firstUpto isFirst
  rw [List.take_of_length_le h]
def beginsUpto (l : List (Int × Int)) (k : Nat) : List Int := ((l.take k).filter (isFirst l)).map (·.1)
theorem beginsUpto_step {l : List (Int × Int)} {p q : Int} {k : Nat} (h : l[k]? = some (p, q)) : beginsUpto l (k + 1) = beginsUpto l k ++ (if isFirst l (p, q) = true then [p] else []) := by
  unfold beginsUpto
  rw [List.take_add_one, h, List.filter_append, List.map_append]
  congr 1
  by_cases hf : isFirst l (p, q) = true
  · simp [hf]
  · simp [hf]
theorem beginsUpto_end {l : List (Int × Int)} {k : Nat} (h : l.length ≤ k) : beginsUpto l k = begins l := by
  unfold beginsUpto begins
  rw [List.take_of_length_le h]

theorem pass_take {l : List (Int × Int)} {k : Nat} {b e p q : Int} (h : l[k]? = some (p, q)) : pass (l.take (k + 1)) b e = grab b (pass (l.take k) b e) (p, q) := by
  rw [List.take_add_one, h]
  exact pass_snoc _ _ _ _
theorem map_take2 {l : List Int} {f : Int → Int × Int} {j : Nat} {x : Int} (h : l[j]? = some x) : (l.take (j + 1)).map f = (l.take j).map f ++ [f x] := by
  rw [List.take_add_one, h, List.map_append]
  rfl

set_option maxRecDepth 100000 in
set_option maxHeartbeats 8000000 in
theorem specMerge_any (v0 : Value) (x0 : List (Int × Int)) (w : World) (h0 : Ros2 w v0 x0) (n0 : x0.length ≤ 8796093022207) :
    Calls Try.prog 16 #[v0] w (MadeK 2 enc2 37 (merged x0) w) := by
  have B_v0 := Lib.hid h0
  obtain ⟨A0, c0, b0, off0, rfl, hnc0, hcm0, -, -⟩ := h0.shape
  obtain ⟨l0, hl0⟩ : ∃ n, n = x0.length := ⟨_, rfl⟩
  rw [← hl0] at B_v0 n0 hnc0 ⊢
  have HL0 := Lib.hid hl0
  clear hl0 h0
  unfold maxLen at hcm0
  have hbw : Below w.heap.size w (w.alloc (.cells #[] 3)) := (Below.refl _ _).alloc (Nat.le_refl _) _
  go_enter Try.func16, Try.ntmps16
  go_wp2_with fail
  go_loopg [3, 18] l0 (fun kx s3 s12 wr => ∃ (j k g cap : Nat) (L : List Int), s3 = .slice (some ⟨g, 0, none⟩) k cap ∧ s12 = .int .i64 j ∧ j ≤ l0 ∧ l0 - j ≤ kx ∧ k ≤ j ∧
    Hid (L = beginsUpto x0 j) ∧ Hid (Out 3 w.heap.size w.heap.size (w.alloc (.cells #[] 3)) wr g k cap L))
  case atStart => exact ⟨0, 0, w.heap.size, 0, [], rfl, rfl, Nat.zero_le _, by omega, Nat.le_refl _, rfl, Out.start (ownE (e := 3) (size := 1) w (Nat.le_refl _))⟩
  case round =>
    obtain ⟨j, k, g, cap, L, rfl, rfl, hj, hjk, hkj, HL, HO⟩ := hrel
    obtain ⟨hgB, hgl, hlc, hcap, hsz⟩ := HO.out.lt
    unfold maxLen at hcap
    have hbW : Below w.heap.size w wr := HO.out.belowW hbw (Nat.le_refl _)
    by_cases hlt : j < l0
    · obtain ⟨p, q, hx⟩ : ∃ p q, x0[j]? = some (p, q) := ⟨_, _, List.getElem?_eq_getElem (by rw [← HL0.out]; exact hlt)⟩
      obtain ⟨b, off, rfl, hc0, hc1, hbl⟩ := (B_v0.out.below hbW).at hx
      have HST := Lib.hid (beginsUpto_step hx)
      clear hx
      obtain ⟨W1, hW1⟩ : ∃ W1, W1 = wr.alloc (.cells #[.int .i64 p, .int .i64 q] 37) := ⟨_, rfl⟩
      have hbA : Below wr.heap.size wr W1 := by rw [hW1]; exact (Below.refl _ _).alloc (Nat.le_refl _) _
      have HOA := Lib.hid (HO.out.below hbA)
      have hs1 : W1.heap.size = wr.heap.size + 1 := by rw [hW1]; simp
      have cs0 : W1.cell? ⟨wr.heap.size, 0, none⟩ = some (.int .i64 p) := by rw [hW1]; simp [go_sem]
      have cs1 : W1.cell? ⟨wr.heap.size, 1, none⟩ = some (.int .i64 q) := by rw [hW1]; simp [go_sem]
      have hbW1 : Below w.heap.size w W1 := hbW.trans (hbA.mono hbW.size)
      have HCS := Lib.hid (And.intro cs0 cs1)
      clear cs0 cs1
      obtain ⟨f0, hf0⟩ : ∃ f0, f0 = decide (p < q) := ⟨_, rfl⟩
      have HF0 := Lib.hid (hf0.trans (firstUpto_zero x0 p q).symm)
      have hf0' : decide (p < q) = f0 := hf0.symm
      clear hf0
      obtain ⟨bs, hbs⟩ : ∃ bs, bs = wr.heap.size := ⟨_, rfl⟩
      go_wp2_with fail
      rw [← hW1]
      rw [← hbs] at HCS hs1 ⊢
      have hB1 : w.heap.size ≤ W1.heap.size := hbW1.size
      clear hW1 hf0' hbs HO hgl hsz hbW hbA
      go_loopg [6, 29] l0 (fun kx s6 s23 wr2 => ∃ (t : Nat) (f : Bool), s6 = .bool f ∧ s23 = .int .i64 t ∧ t ≤ l0 ∧ l0 - t ≤ kx ∧ Below W1.heap.size W1 wr2 ∧ Hid (f = firstUpto x0 p q t))
      case atStart => exact ⟨0, f0, rfl, rfl, Nat.zero_le _, by omega, Below.refl _ _, HF0.out⟩
      case round =>
        obtain ⟨t, f, rfl, rfl, ht, htk, hb2, HF⟩ := hrel
        have hz2 := hb2.size
        have hbsl : bs < wr.heap.size := by omega
        have hbsn : ¬ bs = wr.heap.size := by omega
        have cp0 : wr.cell? ⟨bs, 0, none⟩ = some (.int .i64 p) := (hb2.cell (p := ⟨bs, 0, none⟩) (by show bs < _; omega)).trans HCS.out.1
        by_cases htl : t < l0
        · obtain ⟨a, c, hx⟩ : ∃ p q, x0[t]? = some (p, q) := ⟨_, _, List.getElem?_eq_getElem (by rw [← HL0.out]; exact htl)⟩
          obtain ⟨b', off', e2, hd0, hd1, hbl2⟩ := (B_v0.out.below (hbW1.trans (hb2.mono hbW1.size))).at hx
          simp only [Option.some.injEq, Addr.mk.injEq, and_true] at e2
          obtain ⟨rfl, rfl⟩ := e2
          have hbA2 : Below W1.heap.size W1 (wr.alloc (.cells #[.int .i64 a, .int .i64 c] 37)) := hb2.alloc hb2.size _
          cases f with
          | false =>
            have HN : Hid (false = firstUpto x0 p q (t + 1)) := by
              by_cases hh : a < p ∧ p ≤ c
              · exact (firstUpto_hit hx hh.1 hh.2).symm
              · exact HF.out.trans (firstUpto_miss hx hh).symm
            clear hx
            go_wp2_with fail
            go_roundg (l0 - (t + 1))
            case measure => omega
            case rel => exact ⟨t + 1, false, rfl, by go_num, by omega, by omega, hbA2, HN.out⟩
          | true =>
            by_cases h1 : p ≤ a
            · have HN : Hid (true = firstUpto x0 p q (t + 1)) := HF.out.trans (firstUpto_miss hx (by omega)).symm
              clear hx
              go_wp2_with fail
              go_roundg (l0 - (t + 1))
              case measure => omega
              case rel => exact ⟨t + 1, true, rfl, by go_num, by omega, by omega, hbA2, HN.out⟩
            · by_cases h2 : c < p
              · have HN : Hid (true = firstUpto x0 p q (t + 1)) := HF.out.trans (firstUpto_miss hx (by omega)).symm
                clear hx
                go_wp2_with fail
                go_roundg (l0 - (t + 1))
                case measure => omega
                case rel => exact ⟨t + 1, true, rfl, by go_num, by omega, by omega, hbA2, HN.out⟩
              · have HN : Hid (false = firstUpto x0 p q (t + 1)) := (firstUpto_hit hx (by omega) (by omega)).symm
                clear hx
                go_wp2_with fail
                go_roundg (l0 - (t + 1))
                case measure => omega
                case rel => exact ⟨t + 1, false, rfl, by go_num, by omega, by omega, hbA2, HN.out⟩
        · have HFE : Hid (f = isFirst x0 (p, q)) := by
            have h := HF.out
            rw [firstUpto_end (by rw [← HL0.out]; omega)] at h
            exact h
          have HO2 := Lib.hid (HOA.out.below hb2)
          obtain ⟨-, hgl2, -, -, hsz2⟩ := HO2.out.lt
          clear HOA HF
          cases f with
          | true =>
            have HN : Hid (L ++ [p] = beginsUpto x0 (j + 1)) := by show L ++ [p] = _; rw [HST.out, ← HFE.out, if_pos rfl, HL.out]
            go_wp2_with (at_builtin; refine wpList_app _ rfl (.tmp 50) (.tmp 53) rfl ints_ok w.heap.size g k cap (L.map (Value.int .i64)) (by rfl) (HO2.out.row.alloc _) _ 1 1 [.int .i64 p] (by rfl) (Src.one _ _ _) (by unfold maxLen; omega) (by omega) (by simp; omega) (k + 1) rfl _ rfl ?_; intro g5 cap5 w5 hown5 hgrow5 hat5)
            have HO5 := Lib.hid (HO2.out.app hown5 hgrow5 hat5)
            clear hown5 hgrow5 hat5
            go_wp2_with fail
            go_roundg (l0 - (j + 1))
            case measure => omega
            case rel => exact ⟨j + 1, k + 1, g5, cap5, L ++ [p], rfl, by go_num, by omega, by omega, by omega, HN.out, HO5.out⟩
          | false =>
            have HN : Hid (L = beginsUpto x0 (j + 1)) := by show L = _; rw [HST.out, ← HFE.out, if_neg (by simp), List.append_nil, HL.out]
            go_wp2_with fail
            go_roundg (l0 - (j + 1))
            case measure => omega
            case rel => exact ⟨j + 1, k, g, cap, L, rfl, by go_num, by omega, by omega, by omega, HN.out, HO2.out⟩
    · obtain rfl : j = l0 := by omega
      have hfin : L = begins x0 := by rw [HL.out, beginsUpto_end (by rw [← HL0.out]; exact Nat.le_refl _)]
      have R_vb : Hid (Ro wr (.slice (some ⟨g, 0, none⟩) k cap) (begins x0)) := by
        have h := HO.out.2.1.ro
        rw [hfin] at h
        exact h
      have HBL : Hid ((begins x0).length ≤ 8796093022207) := by
        show (begins x0).length ≤ _
        rw [← hfin, HO.out.1]
        omega
      clear HO hfin HL
      have R_vb2 := Lib.hid (R_vb.out.below ((Below.refl _ _).alloc (Nat.le_refl _) (.cells #[] 37)))
      clear R_vb
      go_wp2_with fail
      refine (specUnite_any _ (.slice none 0 0) (begins x0) [] _ R_vb2.out (ro_nil _) (by simp only [List.length_nil]; have := HBL.out; omega)).mono ?_
      rintro e W2 ⟨vu, rfl, o2, b2⟩
      rw [List.append_nil] at o2
      have R_u := Lib.hid o2.ro
      obtain ⟨Au, cu, gu, rfl, hncu, hcmu, hAu⟩ := o2.shape
      obtain ⟨m, hm⟩ : ∃ m, m = (uni (begins x0)).length := ⟨_, rfl⟩
      have hml : m ≤ j := by
        have h1 := merged_len x0
        rw [hm, ← merge_count, HL0.out]
        exact h1
      rw [← hm] at R_u hncu ⊢
      have HM := Lib.hid hm
      clear hm hAu hncu
      unfold maxLen at hcmu
      have hbx : Below w.heap.size w (wr.alloc (.cells #[] 37)) := hbW.alloc hbW.size _
      have hb2w : Below w.heap.size w W2 := hbx.trans (b2.mono hbx.size)
      have hs2 : wr.heap.size + 1 ≤ W2.heap.size := by have := b2.size; simpa using this
      obtain ⟨g0, hg0⟩ : ∃ g0, g0 = wr.heap.size := ⟨_, rfl⟩
      have ho0 : OwnK 2 enc2 37 w.heap.size W2 (.slice (some ⟨g0, 0, none⟩) 0 0) [] := by
        rw [hg0]
        exact OwnK.below (ownE (e := 37) (size := 2) wr hbW.size) b2
      have hlu : ∀ kk, (Value.slice Au m cu).ownBlock = some kk → g0 < kk := fun kk hk => by
        have := (World.ownsRow.lt o2 kk (by rw [HM.out] at hk; exact hk)).1
        rw [hg0]; simp at this; omega
      have hg0B : w.heap.size ≤ g0 := by rw [hg0]; exact hbW.size
      have o2' : Own 3 (g0 + 1) W2 (.slice Au m cu) (uni (begins x0)) := by
        have h1 := o2
        rw [← HM.out] at h1
        refine ⟨h1.1, ?_⟩
        rcases h1.2 with h2 | ⟨g', cap', cur, h3, hb', r⟩
        · exact .inl h2
        · exact .inr ⟨g', cap', cur, h3, by have := hlu g' (by rw [h3]; rfl); omega, r⟩
      have HU := Lib.hid o2'
      have HO0 := Lib.hid ho0
      rw [← hg0]
      clear o2 o2' ho0 hlu hg0 b2 hbW hsz hgl R_vb2 hbx
      go_wp2_with fail
      go_loopg [9, 60] m (fun kx s9 s60 wr => ∃ (t k9 g9 cap9 : Nat) (L9 : List (Int × Int)), s9 = .slice (some ⟨g9, 0, none⟩) k9 cap9 ∧ s60 = .int .i64 t ∧ t ≤ m ∧ m - t ≤ kx ∧ k9 ≤ t ∧
        Hid (L9 = ((uni (begins x0)).take t).map (fun b => (b, passes x0 b x0.length))) ∧ Hid (OutK 2 enc2 37 w.heap.size g0 W2 wr g9 k9 cap9 L9))
      case atStart => exact ⟨0, 0, g0, 0, [], rfl, rfl, Nat.zero_le _, by omega, Nat.le_refl _, rfl, OutK.start HO0.out⟩
      case round =>
        obtain ⟨t, k9, g9, cap9, L9, rfl, rfl, ht, htk, hk9, HL9, HO9⟩ := hrel
        obtain ⟨hg9B, hg9l, hlc9, hcap9, hsz9⟩ := HO9.out.lt
        unfold maxLen at hcap9
        have hbW9 : Below w.heap.size w wr := HO9.out.belowW hb2w hg0B
        by_cases htm : t < m
        · obtain ⟨bb, hbb⟩ : ∃ x, (uni (begins x0))[t]? = some x := get_some HM.out htm
          have hU9 := HO9.out.own HU.out (Nat.lt_succ_self _)
          obtain ⟨b1, o1, e1, hcb, -⟩ := (Own.ro hU9).at hbb
          subst e1
          have HST := Lib.hid (map_take2 (f := fun b => (b, passes x0 b x0.length)) hbb)
          clear hbb hU9
          go_wp2_with fail
          go_loopg [12, 67] j (fun kx s12 s67 wr2 => ∃ (i : Nat) (e : Int), s12 = .int .i64 e ∧ s67 = .int .i64 i ∧ i ≤ j ∧ j - i ≤ kx ∧ Hid (e = passes x0 bb i) ∧ Hid (OutK 2 enc2 37 w.heap.size g0 W2 wr2 g9 k9 cap9 L9))
          case atStart => exact ⟨0, bb, rfl, rfl, Nat.zero_le _, by omega, rfl, HO9.out⟩
          case round =>
            clear HO9 hbW9 hg9l hsz9 hcb
            obtain ⟨i, e, rfl, rfl, hi, hik, HE, HO9⟩ := hrel
            by_cases hij : i < j
            · have HEP : Hid (pass (x0.take 0) bb e = e) := by show pass (x0.take 0) bb e = e; simp [pass]
              go_wp2_with fail
              go_loopg [12, 71] j (fun kx s12 s71 wr3 => ∃ (u : Nat) (z : Int), s12 = .int .i64 z ∧ s71 = .int .i64 u ∧ u ≤ j ∧ j - u ≤ kx ∧ Hid (z = pass (x0.take u) bb e) ∧ Hid (OutK 2 enc2 37 w.heap.size g0 W2 wr3 g9 k9 cap9 L9))
              case atStart => exact ⟨0, e, rfl, rfl, Nat.zero_le _, by omega, HEP.out.symm, HO9.out⟩
              case round =>
                clear HO9
                obtain ⟨u, z, rfl, rfl, hu, huk, HZ, HO9⟩ := hrel
                by_cases huj : u < j
                · obtain ⟨p, q, hx⟩ : ∃ p q, x0[u]? = some (p, q) := ⟨_, _, List.getElem?_eq_getElem (by rw [← HL0.out]; exact huj)⟩
                  obtain ⟨b3, o3, e3, hd0, hd1, -⟩ := (B_v0.out.below (HO9.out.belowW hb2w hg0B)).at hx
                  subst e3
                  have HPT := Lib.hid (pass_take (b := bb) (e := e) hx)
                  have HOA := Lib.hid (HO9.out.below ((Below.refl _ _).alloc (Nat.le_refl _) (.cells #[.int .i64 p, .int .i64 q] 37)))
                  clear hx
                  by_cases h1 : p < q
                  · by_cases h2 : p ≤ z
                    · by_cases h3 : bb ≤ p
                      · have HN : Hid (max z q = pass (x0.take (u + 1)) bb e) := by show max z q = _; rw [HPT.out, ← HZ.out]; unfold grab; rw [if_pos ⟨h1, h2, h3⟩]
                        go_wp2_with fail
                        go_roundg (j - (u + 1))
                        case measure => omega
                        case rel => exact ⟨u + 1, max z q, rfl, by go_num, by omega, by omega, HN.out, HOA.out⟩
                      · have HN : Hid (z = pass (x0.take (u + 1)) bb e) := by show z = _; rw [HPT.out, ← HZ.out]; unfold grab; rw [if_neg (by simp only; omega)]
                        go_wp2_with fail
                        go_roundg (j - (u + 1))
                        case measure => omega
                        case rel => exact ⟨u + 1, z, rfl, by go_num, by omega, by omega, HN.out, HOA.out⟩
                    · have HN : Hid (z = pass (x0.take (u + 1)) bb e) := by show z = _; rw [HPT.out, ← HZ.out]; unfold grab; rw [if_neg (by simp only; omega)]
                      go_wp2_with fail
                      go_roundg (j - (u + 1))
                      case measure => omega
                      case rel => exact ⟨u + 1, z, rfl, by go_num, by omega, by omega, HN.out, HOA.out⟩
                  · have HN : Hid (z = pass (x0.take (u + 1)) bb e) := by show z = _; rw [HPT.out, ← HZ.out]; unfold grab; rw [if_neg (by simp only; omega)]
                    go_wp2_with fail
                    go_roundg (j - (u + 1))
                    case measure => omega
                    case rel => exact ⟨u + 1, z, rfl, by go_num, by omega, by omega, HN.out, HOA.out⟩
                · have HN : Hid (z = passes x0 bb (i + 1)) := by
                    have h := HZ.out
                    rw [List.take_of_length_le (by rw [← HL0.out]; omega), HE.out] at h
                    exact h
                  go_wp2_with fail
                  go_roundg (j - (i + 1))
                  case measure => omega
                  case rel => exact ⟨i + 1, z, rfl, by go_num, by omega, by omega, HN.out, HO9.out⟩
            · obtain ⟨-, hg9l, -, -, hsz9⟩ := HO9.out.lt
              have HN : Hid (L9 ++ [(bb, e)] = ((uni (begins x0)).take (t + 1)).map (fun b => (b, passes x0 b x0.length))) := by
                show L9 ++ [(bb, e)] = _
                rw [HST.out, ← HL9.out, HE.out, show i = x0.length by rw [← HL0.out]; omega]
              have hB9 : w.heap.size ≤ wr.heap.size := by omega
              go_wp2_with (at_builtin; refine wpList_app _ rfl (.tmp 98) (.tmp 102) rfl spans_ok w.heap.size g9 k9 cap9 (cellsK enc2 L9) (by rfl) (HO9.out.row.alloc _) _ 1 1 [.int .i64 bb, .int .i64 e] (by rfl) (Src.new_at _ #[.int .i64 bb, .int .i64 e] _ 2 _ (by simp) rfl (by simp [Value.oneCell'])) (by unfold maxLen; omega) (by omega) (by simp; omega) (k9 + 1) rfl _ rfl ?_; intro g5 cap5 w5 hown5 hgrow5 hat5)
              have HO5 := Lib.hid (HO9.out.app (x := (bb, e)) hown5 hgrow5 hat5)
              clear hown5 hgrow5 hat5
              go_wp2_with fail
              go_roundg (m - (t + 1))
              case measure => omega
              case rel => exact ⟨t + 1, k9 + 1, g5, cap5, L9 ++ [(bb, e)], rfl, by go_num, by omega, by omega, by omega, HN.out, HO5.out⟩
        · obtain rfl : t = m := by omega
          have hfin : L9 = merged x0 := by
            rw [HL9.out, List.take_of_length_le (by rw [← HM.out]; exact Nat.le_refl _), spec_merged]
          have HF := Lib.hid hfin
          clear hfin
          go_wp2_with fail
          go_ret
          exact HO9.out.made hb2w hg0B HF.out

end Go.Proofs.Ytpkdjdofbedncaa

/-
  What is proved here: the contract of the reference's Unite; condition: at most 2^43 elements in all.
-/
import Derived.Test.YtpkdjdofbedncaaSpecAsc
import Derived.Test.YtpkdjdofbedncaaHas
import Derived.Test.YtpkdjdofbedncaaUnite
namespace Go.Proofs.Ytpkdjdofbedncaa
open Go.RowKit
set_option linter.unusedVariables false

set_option maxRecDepth 100000 in
set_option maxHeartbeats 1000000 in
theorem specUnite_any (va vb : Value) (xs ys : List Int) (w : World) (ha : Ro w va xs) (hb : Ro w vb ys) (hn : xs.length + ys.length ≤ 8796093022208) :
    Calls Try.prog 42 #[va, vb] w (Made 3 (uni (xs ++ ys)) w) := by
  have HRA := Lib.hid ha
  have HRB := Lib.hid hb
  obtain ⟨A, c, b, off, rfl, hnc, hcm, ha, hcell⟩ := ha
  obtain ⟨A1, c1, b1, off1, rfl, hnc1, hcm1, ha1, hcell1⟩ := hb
  obtain ⟨n, hxn⟩ : ∃ n, n = xs.length := ⟨_, rfl⟩
  obtain ⟨m, hym⟩ : ∃ m, m = ys.length := ⟨_, rfl⟩
  rw [← hxn] at HRA ⊢
  rw [← hym] at HRB ⊢
  rw [← hxn, ← hym] at hn
  have HX := Lib.hid hxn
  have HY := Lib.hid hym
  clear hcell ha hxn hcell1 ha1 hym hnc hnc1
  unfold maxLen at hcm hcm1
  go_enter Try.func42, Try.ntmps42
  go_wp2_with (at_builtin; first
    | (refine wpList_app _ rfl (.tmp 9) (.tmp 10) rfl ints_ok (w.heap.size + 1) (w.heap.size + 1) 0 0 [] (by rfl) (ownE_at _ (by simp) _ (by simp)) _ n c (xs.map (Value.int .i64)) (by rfl) (((Ro.src HRA.out).2.alloc _).alloc _) (by unfold maxLen; omega) (by omega) (by simp) n (by omega) _ rfl ?_; intro g2 cap2 w2 hown2 hgrow2 hat2)
    | (refine wpList_app _ rfl (.tmp 11) (.tmp 12) rfl ints_ok (w.heap.size + 1) g2 n cap2 _ (by rfl) hown2 _ m c1 (ys.map (Value.int .i64)) (by rfl) ((Ro.src HRB.out).2.below (below_app hgrow2 (Nat.le_succ _) (((Below.refl _ _).alloc (Nat.le_refl _) _).alloc (by simp) _))) (by unfold maxLen; omega) (by omega) (by have := hgrow2.size; simp at this; omega) (n + m) rfl _ rfl ?_; intro g3 cap3 w3 hown3 hgrow3 hat3))
  obtain ⟨hg2B, hg2l⟩ := hown2.lt g2 rfl
  obtain ⟨hg3B, hg3l⟩ := hown3.lt g3 rfl
  have hs2 : w.heap.size + 1 + 1 ≤ w2.heap.size := by have := hgrow2.size; simpa using this
  have hs3 : w2.heap.size ≤ w3.heap.size := hgrow3.size
  have hb2 : Below w.heap.size w w2 := below_app hgrow2 (Nat.le_succ _) (((Below.refl _ _).alloc (Nat.le_refl _) _).alloc (by simp) _)
  have hb3 : Below w.heap.size w w3 := below_app hgrow3 (by omega) hb2
  have hoe : Own 3 w.heap.size w3 (.slice (some ⟨w.heap.size, 0, none⟩) 0 0) [] :=
    World.ownsRow.kept (World.ownsRow.kept ((ownE (e := 3) (size := 1) w (Nat.le_refl _)).alloc _) hgrow2 (.inr (by simp [Value.ownBlock]))) hgrow3 (.inr (by simp [Value.ownBlock]; omega))
  rw [List.nil_append, ← List.map_append] at hown3
  have hoj := own_ro hown3 (by rw [List.length_append, ← HX.out, ← HY.out])
  have HOE := Lib.hid hoe
  have HOJ := Lib.hid hoj
  clear hown2 hown3 hgrow2 hgrow3 hat2 hat3 hoe hoj
  obtain ⟨l, hl⟩ : ∃ l, l = xs ++ ys := ⟨_, rfl⟩
  rw [← hl] at HOJ ⊢
  have HLN := Lib.hid (show n + m = l.length by rw [hl, List.length_append, ← HX.out, ← HY.out])
  have HLE := Lib.hid hl
  clear hl
  obtain ⟨_, _, _, hc3, hm3⟩ := own_lt HOJ.out
  unfold maxLen at hm3
  go_wp2_with fail
  go_loopg [5, 15] (n + m) (fun kx s5 s15 wr => ∃ (j k g cap : Nat) (L : List Int), s5 = .slice (some ⟨g, 0, none⟩) k cap ∧ s15 = .int .i64 j ∧ j ≤ (n + m) ∧ (n + m) - j ≤ kx ∧ k ≤ j ∧ (g = w.heap.size ∨ w3.heap.size ≤ g) ∧ Below w.heap.size w wr ∧ w3.heap.size ≤ wr.heap.size ∧
    Hid (L = (l.take j).foldl nw []) ∧ Hid (Own 3 w.heap.size wr (.slice (some ⟨g, 0, none⟩) k cap) L) ∧ Hid (Own 3 (w.heap.size + 1) wr (.slice (some ⟨g3, 0, none⟩) (n + m) cap3) l))
  case atStart => exact ⟨0, 0, w.heap.size, 0, [], rfl, rfl, Nat.zero_le _, by omega, Nat.le_refl _, .inl rfl, hb3, Nat.le_refl _, rfl, HOE.out, HOJ.out⟩
  case round =>
    obtain ⟨j, k, g, cap, L, rfl, rfl, hj, hjk, hkj, hg, hb, hsz, HL, HO, HOl⟩ := hrel
    have hbs := hb.size
    obtain ⟨hgB, hgl, hll, hlc, hcap⟩ := own_lt HO.out
    unfold maxLen at hcap
    have HLL := Lib.hid hll
    clear hll
    by_cases hlt : j < (n + m)
    · obtain ⟨x, hx⟩ : ∃ x, l[j]? = some x := ⟨l[j]'(by rw [← HLN.out]; exact hlt), List.getElem?_eq_getElem _⟩
      have hc := (own_cell HOl.out hx).1
      have HST := Lib.hid (show (l.take (j + 1)).foldl nw [] = nw ((l.take j).foldl nw []) x by rw [List.take_add_one, hx, List.foldl_append]; rfl)
      clear hx
      go_wp2_with fail
      refine (has_any _ L _ _ HO.out.ro (by rw [HLL.out]; omega)).mono ?_
      by_cases hm : x ∈ L
      · have HQ := Lib.hid (show nw L x = L by unfold nw; rw [if_pos hm])
        rw [show decide (x ∈ L) = true by simpa using hm]
        clear hm
        rintro e w' ⟨rfl, rfl⟩
        go_wp2_with fail
        go_roundg ((n + m) - (j + 1))
        case measure => omega
        case rel => exact ⟨j + 1, k, g, cap, L, rfl, by go_num, by omega, by omega, by omega, hg, hb, hsz, (by show L = _; rw [HST.out, ← HL.out, HQ.out]), HO.out, HOl.out⟩
      · have HQ := Lib.hid (show nw L x = L ++ [x] by unfold nw; rw [if_neg hm])
        rw [show decide (x ∈ L) = false by simpa using hm]
        clear hm
        rintro e w' ⟨rfl, rfl⟩
        have hown : wr.ownsRow w.heap.size 3 1 (.slice (some ⟨g, 0, none⟩) k cap) k (L.map (Value.int .i64)) := by
          have := HO.out; unfold Own at this; rwa [HLL.out] at this
        have HOW := Lib.hid hown
        clear hown
        go_wp2_with (at_builtin; refine wpList_app _ rfl (.tmp 23) (.tmp 25) rfl ints_ok w.heap.size g k cap (L.map (Value.int .i64)) (by rfl) (HOW.out.alloc _) _ 1 1 [.int .i64 x] (by rfl) (Src.one _ _ _) (by unfold maxLen; omega) (by omega) (by simp; omega) (k + 1) rfl _ rfl ?_; intro g5 cap5 w5 hown5 hgrow5 hat5)
        have hb5 : Below w.heap.size w w5 := below_app hgrow5 hgB (hb.alloc hbs _)
        have hs5 : wr.heap.size + 1 ≤ w5.heap.size := by have := hgrow5.size; simpa using this
        have ho5 : Own 3 w.heap.size w5 (.slice (some ⟨g5, 0, none⟩) (k + 1) cap5) (L ++ [x]) := by
          unfold Own
          rw [List.length_append, HLL.out, List.map_append]
          exact hown5
        have hol5 : Own 3 (w.heap.size + 1) w5 (.slice (some ⟨g3, 0, none⟩) (n + m) cap3) l :=
          World.ownsRow.kept (World.ownsRow.alloc HOl.out _) hgrow5 (.inr (by simp [Value.ownBlock]; omega))
        have hg5 : g5 = w.heap.size ∨ w3.heap.size ≤ g5 := by
          rcases hat5 with h | h
          · omega
          · simp at h; omega
        have HO5 := Lib.hid ho5
        have HOL5 := Lib.hid hol5
        clear ho5 hol5 hown5 hgrow5 hat5
        go_wp2_with fail
        go_roundg ((n + m) - (j + 1))
        case measure => omega
        case rel => exact ⟨j + 1, k + 1, g5, cap5, L ++ [x], rfl, by go_num, by omega, by omega, by omega, hg5, hb5, by omega, (by show L ++ [x] = _; rw [HST.out, ← HL.out, HQ.out]), HO5.out, HOL5.out⟩
    · have hjN : l.length ≤ j := by rw [← HLN.out]; omega
      have hfin : asc L = uni l := by
        rw [HL.out, List.take_of_length_le hjN, nw_uni]
      have HF := Lib.hid hfin
      clear hfin hjN
      go_wp2_with fail
      refine (specAscending_any _ L _ HO.out.ro (by rw [HLL.out]; omega)).mono ?_
      rintro e w6 ⟨v6, rfl, ho6, hb6⟩
      rw [HF.out] at ho6
      have HO6 := Lib.hid ho6
      clear ho6
      go_wp2_with fail
      go_ret
      exact ⟨v6, rfl, (by rw [← HLE.out]; exact HO6.out.mono hbs), hb.trans (hb6.mono hbs)⟩

end Go.Proofs.Ytpkdjdofbedncaa

/-
  What is proved here: the contract of Unite of the thin package: it returns the different numbers of both lists in ascending order; condition: at most 2^44 elements in all.
-/
import Derived.Test.YtiioojnoggcnmaaAsc
import Derived.Test.YtiioojnoggcnmaaUniPlain
namespace Go.Proofs.Ytiioojnoggcnmaa
open Go.RowKit
set_option linter.unusedVariables false

theorem ro_nil (w : World) : Ro w (.slice none 0 0) [] := ⟨none, 0, 0, 0, rfl, Nat.le_refl _, Nat.zero_le _, fun h => absurd h (by simp), fun k x h => by simp at h⟩

theorem Own.shape {E : TypeId} {B : Nat} {w : World} {v : Value} {xs : List Int} (h : Own E B w v xs) : ∃ (A : Option Addr) (c g : Nat), v = .slice A xs.length c ∧ xs.length ≤ c ∧ c ≤ maxLen ∧ (0 < xs.length → A = some ⟨g, 0, none⟩) := by
  rcases h.2 with ⟨h0, h1⟩ | ⟨g, cap, cur, h0, hB, hg, h1, h2, _⟩
  · exact ⟨none, 0, 0, by rw [h0, h1], by omega, Nat.zero_le _, fun h => by omega⟩
  · exact ⟨_, cap, g, h0, h1, h2, fun _ => rfl⟩
theorem own_ro {E : TypeId} {B : Nat} {w : World} {g n cap : Nat} {xs : List Int} (h : w.ownsRow B E 1 (.slice (some ⟨g, 0, none⟩) n cap) n (xs.map (Value.int .i64))) (hx : xs.length = n) : Own E B w (.slice (some ⟨g, 0, none⟩) n cap) xs := by
  unfold Own
  rw [hx]
  exact h
theorem sq_take {l : List Int} {j : Nat} {x : Int} (h : l[j]? = some x) : (l.take (j + 1)).foldl sq [] = sq ((l.take j).foldl sq []) x := by
  rw [List.take_add_one, h, List.foldl_append]
  rfl

set_option maxRecDepth 100000 in
set_option maxHeartbeats 1000000 in
theorem unite_any (va vb : Value) (xs ys : List Int) (w : World) (ha : Ro w va xs) (hb : Ro w vb ys) (hn : xs.length + ys.length ≤ 17592186044416) :
    Calls Try.prog 50 #[va, vb] w (Made 3 (uni (xs ++ ys)) w) := by
  have HRA := Lib.hid ha
  have HRB := Lib.hid hb
  obtain ⟨A, c, b, off, rfl, hnc, hcm, ha, hcell⟩ := ha
  obtain ⟨A1, c1, b1, off1, rfl, hnc1, hcm1, ha1, hcell1⟩ := hb
  obtain ⟨n, hxn⟩ : ∃ n, n = xs.length := ⟨_, rfl⟩
  obtain ⟨m, hym⟩ : ∃ m, m = ys.length := ⟨_, rfl⟩
  rw [← hxn] at HRA ⊢
  rw [← hym] at HRB ⊢
  rw [← hxn, ← hym] at hn
  have HX := Lib.hid hxn
  have HY := Lib.hid hym
  clear hcell ha hxn hcell1 ha1 hym hnc hnc1
  unfold maxLen at hcm hcm1
  go_enter Try.func50, Try.ntmps50
  go_wp2_with (at_builtin; first
    | (refine wpList_app _ rfl (.tmp 10) (.tmp 11) rfl ints_ok (w.heap.size + 1) (w.heap.size + 1) 0 0 [] (by rfl) (ownE_at _ (by simp) _ (by simp)) _ n c (xs.map (Value.int .i64)) (by rfl) (((Ro.src HRA.out).2.alloc _).alloc _) (by unfold maxLen; omega) (by omega) (by simp) n (by omega) _ rfl ?_; intro g2 cap2 w2 hown2 hgrow2 hat2)
    | (refine wpList_app _ rfl (.tmp 12) (.tmp 13) rfl ints_ok (w.heap.size + 1) g2 n cap2 _ (by rfl) hown2 _ m c1 (ys.map (Value.int .i64)) (by rfl) ((Ro.src HRB.out).2.below (below_app hgrow2 (Nat.le_succ _) (((Below.refl _ _).alloc (Nat.le_refl _) _).alloc (by simp) _))) (by unfold maxLen; omega) (by omega) (by have := hgrow2.size; simp at this; omega) (n + m) rfl _ rfl ?_; intro g3 cap3 w3 hown3 hgrow3 hat3))
  obtain ⟨hg2B, hg2l⟩ := hown2.lt g2 rfl
  obtain ⟨hg3B, hg3l⟩ := hown3.lt g3 rfl
  have hs2 : w.heap.size + 1 + 1 ≤ w2.heap.size := by have := hgrow2.size; simpa using this
  have hs3 : w2.heap.size ≤ w3.heap.size := hgrow3.size
  have hb2 : Below w.heap.size w w2 := below_app hgrow2 (Nat.le_succ _) (((Below.refl _ _).alloc (Nat.le_refl _) _).alloc (by simp) _)
  have hb3 : Below w.heap.size w w3 := below_app hgrow3 (by omega) hb2
  have hoe : Own 3 w.heap.size w3 (.slice (some ⟨w.heap.size, 0, none⟩) 0 0) [] :=
    World.ownsRow.kept (World.ownsRow.kept ((ownE (e := 3) (size := 1) w (Nat.le_refl _)).alloc _) hgrow2 (.inr (by simp [Value.ownBlock]))) hgrow3 (.inr (by simp [Value.ownBlock]; omega))
  rw [List.nil_append, ← List.map_append] at hown3
  have hoj := own_ro hown3 (by rw [List.length_append, ← HX.out, ← HY.out])
  have HOE := Lib.hid hoe
  have HOJ := Lib.hid hoj
  clear hown2 hown3 hgrow2 hgrow3 hat2 hat3 hoe hoj
  refine (ascending_any _ _ _ HOJ.out.ro (by rw [List.length_append, ← HX.out, ← HY.out]; exact hn)).mono ?_
  rintro e w4 ⟨v4, rfl, ho4, hb4⟩
  have HOE4 := Lib.hid (HOE.out.below hb4)
  have hb4w : Below w.heap.size w w4 := hb3.trans (hb4.mono hb3.size)
  have hs4 : w3.heap.size ≤ w4.heap.size := hb4.size
  have HLT := Lib.hid (World.ownsRow.lt ho4)
  obtain ⟨A4, c4, g4, rfl, hc4, hm4, hA4⟩ := ho4.shape
  obtain ⟨l, hl⟩ : ∃ l, l = asc (xs ++ ys) := ⟨_, rfl⟩
  rw [← hl] at ho4 hc4 hA4 ⊢ HLT
  obtain ⟨N, hN⟩ : ∃ N, N = l.length := ⟨_, rfl⟩
  rw [← hN] at ho4 hc4 hA4 ⊢ HLT
  have hNn : N = n + m := by rw [hN, hl, asc_len, List.length_append, ← HX.out, ← HY.out]
  have HO4 := Lib.hid ho4
  have HLN := Lib.hid hN
  have HA4 := Lib.hid hA4
  have HU := Lib.hid (show uni (xs ++ ys) = l.foldl sq [] by unfold uni; rw [hl])
  clear ho4 hl hN hA4 HOE HOJ
  unfold maxLen at hm4
  go_wp2_with fail
  go_loopg [5, 17] N (fun kx s5 s17 wr => ∃ (j k g cap : Nat) (L : List Int), s5 = .slice (some ⟨g, 0, none⟩) k cap ∧ s17 = .int .i64 j ∧ j ≤ N ∧ N - j ≤ kx ∧ k ≤ j ∧ (g = w.heap.size ∨ w4.heap.size ≤ g) ∧ Below w.heap.size w wr ∧ w4.heap.size ≤ wr.heap.size ∧
    Hid (L = (l.take j).foldl sq []) ∧ Hid (Own 3 w.heap.size wr (.slice (some ⟨g, 0, none⟩) k cap) L) ∧ Hid (Own 3 w3.heap.size wr (.slice A4 N c4) l))
  case atStart => exact ⟨0, 0, w.heap.size, 0, [], rfl, rfl, Nat.zero_le _, by omega, Nat.le_refl _, .inl rfl, hb4w, Nat.le_refl _, rfl, HOE4.out, HO4.out⟩
  case round =>
    obtain ⟨j, k, g, cap, L, rfl, rfl, hj, hjk, hkj, hg, hb, hsz, HL, HO, HOl⟩ := hrel
    have hbs := hb.size
    obtain ⟨hgB, hgl, hll, hlc, hcap⟩ := own_lt HO.out
    unfold maxLen at hcap
    have HLL := Lib.hid hll
    clear hll
    by_cases hlt : j < N
    · obtain ⟨x, hx⟩ : ∃ x, l[j]? = some x := ⟨l[j]'(by rw [← HLN.out]; exact hlt), List.getElem?_eq_getElem _⟩
      obtain rfl := HA4.out (by omega)
      have hc := (own_cell HOl.out hx).1
      have HST := Lib.hid (sq_take hx)
      clear hx
      rcases Nat.eq_zero_or_pos k with hk0 | hk0
      · subst hk0
        have hnil : L = [] := List.eq_nil_of_length_eq_zero HLL.out
        have HQ := Lib.hid (show sq L x = L ++ [x] by rw [hnil]; rfl)
        clear hnil
        have hown : wr.ownsRow w.heap.size 3 1 (.slice (some ⟨g, 0, none⟩) 0 cap) 0 (L.map (Value.int .i64)) := by
          have := HO.out; unfold Own at this; rwa [HLL.out] at this
        have HOW := Lib.hid hown
        clear hown
        go_wp2_with (at_builtin; refine wpList_app _ rfl (.tmp 34) (.tmp 36) rfl ints_ok w.heap.size g 0 cap (L.map (Value.int .i64)) (by rfl) (HOW.out.alloc _) _ 1 1 [.int .i64 x] (by rfl) (Src.one _ _ _) (by unfold maxLen; omega) (by omega) (by simp; omega) (0 + 1) rfl _ rfl ?_; intro g5 cap5 w5 hown5 hgrow5 hat5)
        have hb5 : Below w.heap.size w w5 := below_app hgrow5 hgB (hb.alloc hbs _)
        have hs5 : wr.heap.size + 1 ≤ w5.heap.size := by have := hgrow5.size; simpa using this
        have ho5 : Own 3 w.heap.size w5 (.slice (some ⟨g5, 0, none⟩) (0 + 1) cap5) (L ++ [x]) := by
          unfold Own
          rw [List.length_append, HLL.out, List.map_append]
          exact hown5
        have hol5 : Own 3 w3.heap.size w5 (.slice (some ⟨g4, 0, none⟩) N c4) l := by
          have hlt4 := HLT.out g4 rfl
          exact World.ownsRow.kept (World.ownsRow.alloc HOl.out _) hgrow5 (.inr (by simp [Value.ownBlock]; omega))
        have hg5 : g5 = w.heap.size ∨ w4.heap.size ≤ g5 := by
          rcases hat5 with h | h
          · omega
          · simp at h; omega
        have HO5 := Lib.hid ho5
        have HOL5 := Lib.hid hol5
        clear ho5 hol5 hown5 hgrow5 hat5
        go_wp2_with fail
        go_roundg (N - (j + 1))
        case measure => omega
        case rel => exact ⟨j + 1, 0 + 1, g5, cap5, L ++ [x], rfl, by go_num, by omega, by omega, by omega, hg5, hb5, by omega, (by show L ++ [x] = _; rw [HST.out, ← HL.out, HQ.out]), HO5.out, HOL5.out⟩
      · obtain ⟨y, hy⟩ : ∃ y, L[k - 1]? = some y := ⟨L[k - 1]'(by rw [HLL.out]; omega), List.getElem?_eq_getElem _⟩
        have hcy := (own_cell HO.out hy).1
        have hlast : L.getLast? = some y := by rw [List.getLast?_eq_getElem?, HLL.out]; exact hy
        have HLA := Lib.hid hlast
        clear hlast hy
        have y1 : IntKind.i64.wrap ((k : Int) - 1) = (k : Int) - 1 := IntWalk.i64_in _ (by omega)
        have y2 : (0 : Int) ≤ (k : Int) - 1 := by omega
        have y2' : (1 : Int) ≤ (k : Int) := by omega
        have y3 : (k : Int) - 1 < (k : Int) := by omega
        have y5 : ((k : Int) - 1).toNat = k - 1 := by omega
        have y6 : ¬ (k : Int) = 0 := by omega
        have y7 : ¬ k = 0 := by omega
        by_cases hyx : y = x
        · subst hyx
          have HQ := Lib.hid (show sq L y = L by unfold sq; rw [if_pos HLA.out])
          go_wp2_with fail
          go_roundg (N - (j + 1))
          case measure => omega
          case rel => exact ⟨j + 1, k, g, cap, L, rfl, by go_num, by omega, by omega, by omega, hg, hb, hsz, (by show L = _; rw [HST.out, ← HL.out, HQ.out]), HO.out, HOl.out⟩
        · have HQ := Lib.hid (show sq L x = L ++ [x] by unfold sq; rw [if_neg (by rw [HLA.out]; intro e; injection e with e; exact hyx e)])
          have hown : wr.ownsRow w.heap.size 3 1 (.slice (some ⟨g, 0, none⟩) k cap) k (L.map (Value.int .i64)) := by
            have := HO.out; unfold Own at this; rwa [HLL.out] at this
          have HOW := Lib.hid hown
          clear hown
          go_wp2_with (at_builtin; refine wpList_app _ rfl (.tmp 34) (.tmp 36) rfl ints_ok w.heap.size g k cap (L.map (Value.int .i64)) (by rfl) (HOW.out.alloc _) _ 1 1 [.int .i64 x] (by rfl) (Src.one _ _ _) (by unfold maxLen; omega) (by omega) (by simp; omega) (k + 1) rfl _ rfl ?_; intro g5 cap5 w5 hown5 hgrow5 hat5)
          have hb5 : Below w.heap.size w w5 := below_app hgrow5 hgB (hb.alloc hbs _)
          have hs5 : wr.heap.size + 1 ≤ w5.heap.size := by have := hgrow5.size; simpa using this
          have ho5 : Own 3 w.heap.size w5 (.slice (some ⟨g5, 0, none⟩) (k + 1) cap5) (L ++ [x]) := by
            unfold Own
            rw [List.length_append, HLL.out, List.map_append]
            exact hown5
          have hol5 : Own 3 w3.heap.size w5 (.slice (some ⟨g4, 0, none⟩) N c4) l := by
            have hlt4 := HLT.out g4 rfl
            exact World.ownsRow.kept (World.ownsRow.alloc HOl.out _) hgrow5 (.inr (by simp [Value.ownBlock]; omega))
          have hg5 : g5 = w.heap.size ∨ w4.heap.size ≤ g5 := by
            rcases hat5 with h | h
            · omega
            · simp at h; omega
          have HO5 := Lib.hid ho5
          have HOL5 := Lib.hid hol5
          clear ho5 hol5 hown5 hgrow5 hat5
          go_wp2_with fail
          go_roundg (N - (j + 1))
          case measure => omega
          case rel => exact ⟨j + 1, k + 1, g5, cap5, L ++ [x], rfl, by go_num, by omega, by omega, by omega, hg5, hb5, by omega, (by show L ++ [x] = _; rw [HST.out, ← HL.out, HQ.out]), HO5.out, HOL5.out⟩
          all_goals first | (exfalso; omega) | (exfalso; simp_all) | skip
    · obtain rfl : j = N := by omega
      have hfin : L = uni (xs ++ ys) := by
        rw [HU.out, HL.out, List.take_of_length_le (by rw [← HLN.out]; exact Nat.le_refl _)]
      have HF := Lib.hid hfin
      clear hfin
      go_wp2_with fail
      go_ret
      refine ⟨_, rfl, ?_, hb⟩
      rw [← HF.out]
      exact HO.out

end Go.Proofs.Ytiioojnoggcnmaa

/-
  What is proved here: the contract of Piles of the thin package: it returns the tops; condition: fewer than 2^44 elements.
-/
import Derived.Test.YtlcliogddepmiaaOwn
import Derived.Test.YtlcliogddepmiaaPilesPlain
namespace Go.Proofs.Ytlcliogddepmiaa
open Go.RowKit
set_option linter.unusedVariables false

/-- What the loop holds: the box of the tops, and their own row. -/
def PileState (T E : TypeId) (B bl g cap : Nat) (L : List Int) (wr : World) : Prop :=
  wr.heap[bl]? = some (.cells #[.slice (some ⟨g, 0, none⟩) L.length cap] T (0, 0)) ∧ Own E B wr (.slice (some ⟨g, 0, none⟩) L.length cap) L

/-- After the append of one number: what the box cell reads, that it may be written, and what the state is behind the store into it. -/
theorem pile_app {T E : TypeId} {bl g n g2 cap2 : Nat} {L : List Int} {x : Int} {w w1 w2 : World} {o : Obj} {v : Value}
    (hown2 : w2.ownsRow w.heap.size E 1 (.slice (some ⟨g2, 0, none⟩) (n + 1) cap2) (n + 1) (L.map (Value.int .i64) ++ [.int .i64 x])) (hgrow2 : (w1.alloc o).grownBy w2 (some g)) (hat2 : g2 = g ∨ g2 = (w1.alloc o).heap.size)
    (hbx : w1.heap[bl]? = some (.cells #[v] T (0, 0))) (hL : L.length = n) (hne : bl ≠ g) (hbw : Below w.heap.size w w1) (hB : w.heap.size ≤ bl) (hg : w.heap.size ≤ g) :
    w2.cell? ⟨bl, 0, none⟩ = some v ∧ w2.frozen? ⟨bl, 0, none⟩ = false ∧
    (PileState T E w.heap.size bl g2 cap2 (L ++ [x]) (w2.setCell ⟨bl, 0, none⟩ (.slice (some ⟨g2, 0, none⟩) (n + 1) cap2)) ∧
      Below w.heap.size w (w2.setCell ⟨bl, 0, none⟩ (.slice (some ⟨g2, 0, none⟩) (n + 1) cap2)) ∧ w1.heap.size ≤ (w2.setCell ⟨bl, 0, none⟩ (.slice (some ⟨g2, 0, none⟩) (n + 1) cap2)).heap.size) := by
  have hlt : bl < w1.heap.size := lt_of_block hbx
  have hbx2 : w2.heap[bl]? = some (.cells #[v] T (0, 0)) := (hgrow2.block bl (by simp; omega) (fun e => by injection e with e; exact hne e)).trans ((Below.heap_alloc w1 o bl hlt).trans hbx)
  have hne2 : g2 ≠ bl := by
    rcases hat2 with h | h
    · omega
    · simp at h; omega
  have hsz : w1.heap.size + 1 ≤ w2.heap.size := by have := hgrow2.size; simpa using this
  refine ⟨cell_of_one hbx2, free_of_one hbx2, ⟨?_, ?_⟩, ?_, by simp [World.setCell]; omega⟩
  · have := one_setCell (u := .slice (some ⟨g2, 0, none⟩) (n + 1) cap2) hbx2
    rw [List.length_append, hL]
    exact this
  · unfold Own
    rw [List.length_append, hL, List.map_append]
    exact ownsRow_setCell_other hown2 (by simp [Value.ownBlock]; exact hne2) _
  · exact (((hbw.alloc hbw.size o)).grown hgrow2 (by have := hbw.size; simp; omega) (fun k hk => by injection hk with hk; omega)).setCell (p := ⟨bl, 0, none⟩) hB _

theorem enters_piles1 : ∀ args w, (callFunc 35 args).run Try.prog w = .ok (.enter 35 args) w := enters_of Try.func35 (by kernel_rfl) rfl

set_option maxHeartbeats 1000000 in
theorem piles1_any (W : World) (bl bv g n cap k : Nat) (x y : Int) (hk : k < n) (hbl : W.cell? ⟨bl, 0, none⟩ = some (.slice (some ⟨g, 0, none⟩) n cap)) (hv : W.cell? ⟨bv, 0, none⟩ = some (.int .i64 x))
    (hc : W.cell? ⟨g, k, none⟩ = some (.int .i64 y)) :
    Calls Try.prog 35 #[.int .i64 k, .pointer (some ⟨bl, 0, none⟩), .pointer (some ⟨bv, 0, none⟩)] W fun e w' => e = .returned (.bool (fits false x y)) ∧ Below W.heap.size W w' := by
  have h1 : (0 : Int) ≤ (k : Int) := by omega
  have h2 : (k : Int) < (n : Int) := by omega
  show Calls Try.prog 35 #[.int .i64 k, .pointer (some ⟨bl, 0, none⟩), .pointer (some ⟨bv, 0, none⟩)] W fun e w' => e = .returned (.bool (decide (x ≤ y))) ∧ Below W.heap.size W w'
  go_enter Try.func35, Try.ntmps35
  go_wp2_with fail
  go_quiet (fail)
  go_wp2_with fail
  go_ret
  exact ⟨rfl, below_drewN_self _ _⟩

set_option maxHeartbeats 1000000 in
theorem piles_any (v : Value) (xs : List Int) (w : World) (h : Ro w v xs) (hn : xs.length ≤ 17592186044416) :
    Calls Try.prog 23 #[v] w (Made 3 (piles false xs) w) := by
  obtain ⟨A, c, b, off, rfl, hnc, hcm, ha, hcell⟩ := h
  obtain ⟨n, hxn⟩ : ∃ n, n = xs.length := ⟨_, rfl⟩
  rw [← hxn] at hn hnc ha ⊢
  have HX := Lib.hid hxn
  have HC := Lib.hid hcell
  have HA := Lib.hid ha
  clear hxn hcell ha
  unfold maxLen at hcm
  go_enter Try.func23, Try.ntmps23
  go_wp2_with fail
  go_loopg [10] n (fun kx s10 wr => ∃ k g cap m : Nat, ∃ L : List Int, k ≤ n ∧ s10 = .int .i64 k ∧ n - k ≤ kx ∧ m ≤ k ∧ Below w.heap.size w wr ∧ w.heap.size + 1 < wr.heap.size ∧
    Hid (L.length = m) ∧ Hid (L = piles false (xs.take k)) ∧ Hid (PileState 22 3 w.heap.size (w.heap.size + 1) g cap L wr))
  case atStart =>
    refine ⟨0, w.heap.size, 0, 0, [], Nat.zero_le _, rfl, by omega, by omega, ((Below.refl _ _).alloc (Nat.le_refl _) _).alloc (by simp) _, by simp, rfl, rfl, ?_⟩
    exact ⟨by simpa using heap_alloc_new (w.alloc (.cells #[] 3)) (.cells #[.slice (some ⟨w.heap.size, 0, none⟩) 0 0] 22), (ownE (e := 3) (size := 1) w (Nat.le_refl _)).alloc _⟩
  case round =>
    obtain ⟨k, g, cap, m, L, hk, rfl, hkk, hm, hb, hsz, HL, HP, HS⟩ := hrel
    by_cases hlt : k < n
    · obtain ⟨x, hx⟩ : ∃ x, xs[k]? = some x := ⟨xs[k]'(by have := HX.out; omega), List.getElem?_eq_getElem _⟩
      obtain ⟨rfl, hbl⟩ := HA.out (by omega)
      have hc1 : wr.cell? ⟨b, off + k, none⟩ = some (.int .i64 x) := (hb.cell (p := ⟨b, off + k, none⟩) hbl).trans (HC.out k x hx)
      have hbox : wr.cell? ⟨w.heap.size + 1, 0, none⟩ = some (.slice (some ⟨g, 0, none⟩) m cap) := by have := cell_of_one HS.out.1; rwa [HL.out] at this
      have HPX := Lib.hid (piles_take (weak := false) hx)
      clear hx
      obtain ⟨hgB, hgl, _, hmc, hcap⟩ := own_lt HS.out.2
      rw [HL.out] at hmc
      unfold maxLen at hcap
      go_wp2_with fail
      refine (search_at _ _ _ m (fun i => fits false x (L.getD i 0)) _ rfl enters_piles1 (by omega) ?hf ?hmono).mono ?_
      case hmono =>
        intro i j hij hj hp
        exact fits_mono (by rw [HP.out]; exact piles_rise _ _) hij (by rw [HL.out]; exact hj) hp
      case hf =>
        intro W i hbW hi
        have hl := HL.out
        have e1 : L[i]? = some (L.getD i 0) := by rw [List.getD_eq_getElem?_getD, List.getElem?_eq_getElem (by omega), Option.getD_some]
        have q1 : W.cell? ⟨w.heap.size + 1, 0, none⟩ = some (.slice (some ⟨g, 0, none⟩) m cap) := (hbW.cell (p := ⟨w.heap.size + 1, 0, none⟩) (by simp; omega)).trans ((World.cell?_alloc_lt wr _ _ (by simp; omega)).trans hbox)
        have q2 : W.cell? ⟨wr.heap.size, 0, none⟩ = some (.int .i64 x) := (hbW.cell (p := ⟨wr.heap.size, 0, none⟩) (by simp)).trans (by simp [go_sem])
        have q3 : W.cell? ⟨g, i, none⟩ = some (.int .i64 (L.getD i 0)) :=
          (hbW.cell (p := ⟨g, i, none⟩) (by simp; omega)).trans ((World.cell?_alloc_lt wr _ _ (by simp; omega)).trans (own_cell HS.out.2 e1).1)
        exact (piles1_any W _ _ g m cap i x _ hi q1 q2 q3).mono fun e w' ⟨h1, h2⟩ => ⟨h1, hbW.trans (h2.mono (by have := hbW.size; simpa using this))⟩
      rintro e w1 ⟨i, rfl, him, hf1, hf2, hb1⟩
      have HF1 := Lib.hid hf1
      have HF2 := Lib.hid hf2
      clear hf1 hf2
      have hb1s : wr.heap.size + 1 ≤ w1.heap.size := by have := hb1.size; simpa using this
      have hS1 : PileState 22 3 w.heap.size (w.heap.size + 1) g cap L w1 :=
        ⟨(hb1.block _ (by simp; omega)).trans ((Below.heap_alloc wr _ _ (by omega)).trans HS.out.1), Own.below (World.ownsRow.alloc HS.out.2 _) hb1⟩
      have hbox1 : w1.cell? ⟨w.heap.size + 1, 0, none⟩ = some (.slice (some ⟨g, 0, none⟩) m cap) := by have := cell_of_one hS1.1; rwa [HL.out] at this
      have hfz1 : w1.frozen? ⟨w.heap.size + 1, 0, none⟩ = false := free_of_one hS1.1
      have hv1 : w1.cell? ⟨wr.heap.size, 0, none⟩ = some (.int .i64 x) := (hb1.cell (p := ⟨wr.heap.size, 0, none⟩) (by simp)).trans (by simp [go_sem])
      have hbw : Below w.heap.size w w1 := (hb.alloc hb.size _).trans (hb1.mono (by simp; omega))
      have HS1 := Lib.hid hS1
      clear hS1 hb1 hbox hc1
      by_cases hie : i = m
      · subst hie
        have hown : w1.ownsRow w.heap.size 3 1 (.slice (some ⟨g, 0, none⟩) i cap) i (L.map (Value.int .i64)) := by
          have := HS1.out.2; unfold Own at this; rwa [HL.out] at this
        have hne := own_box_ne HS1.out.2 HS1.out.1 (by decide)
        have HO := Lib.hid hown
        clear hown
        go_wp2_with (at_builtin; refine wpList_app _ rfl (.tmp 22) (.tmp 24) rfl ints_ok w.heap.size g i cap (L.map (Value.int .i64)) (by rfl) (HO.out.alloc _) _ 1 1 [.int .i64 x] (by rfl) (Src.one _ _ _) (by unfold maxLen; omega) (by omega) (by simp; omega) (i + 1) rfl _ rfl ?_; intro g2 cap2 w2 hown2 hgrow2 hat2; have hS2 := pile_app (T := 22) hown2 hgrow2 hat2 HS1.out.1 HL.out hne hbw (by omega) hgB; have hcx := hS2.1; have hcf := hS2.2.1; have HT := Lib.hid hS2.2.2; clear hS2 hown2 hgrow2 hat2)
        go_roundg (n - (k + 1))
        case measure => omega
        case rel =>
          obtain ⟨t1, t2, t3⟩ := HT.out
          refine ⟨k + 1, g2, cap2, i + 1, L ++ [x], by omega, by go_num, by omega, by omega, t2, by omega, by show (L ++ [x]).length = i + 1; rw [List.length_append, HL.out]; rfl, ?_, t1⟩
          show L ++ [x] = piles false (xs.take (k + 1))
          rw [HPX.out, ← HP.out, pput_end]
          intro t ht
          exact HF1.out t (by rw [HL.out] at ht; exact ht)
      · have hil : i < m := by omega
        have e1 : L[i]? = some (L.getD i 0) := by have := HL.out; rw [List.getD_eq_getElem?_getD, List.getElem?_eq_getElem (by omega), Option.getD_some]
        obtain ⟨q1, q2⟩ := own_cell HS1.out.2 e1
        have hne := own_box_ne HS1.out.2 HS1.out.1 (by decide)
        have HNE := Lib.hid hne
        clear hne e1
        go_wp2_with fail
        go_roundg (n - (k + 1))
        case measure => omega
        case rel =>
          have hst := World.ownsRow.stored HS1.out.2 i (.int .i64 x)
          refine ⟨k + 1, g, cap, m, L.set i x, by omega, by go_num, by omega, by omega, hbw.setCell (p := ⟨g, i, none⟩) hgB _, by simp [World.setCell]; omega, by show (L.set i x).length = m; rw [List.length_set]; exact HL.out, ?_, ⟨?_, ?_⟩⟩
          · show L.set i x = piles false (xs.take (k + 1))
            rw [HPX.out, ← HP.out, pput_at false x L i (by rw [HL.out]; exact hil) HF1.out (HF2.out i (Nat.le_refl _) hil)]
          · rw [List.length_set, Below.heap_setCell _ _ _ _ HNE.out]; exact HS1.out.1
          · unfold Own; rw [List.length_set, List.map_set]; exact hst.1
    · obtain rfl : k = n := by omega
      have hbox : wr.cell? ⟨w.heap.size + 1, 0, none⟩ = some (.slice (some ⟨g, 0, none⟩) m cap) := by have := cell_of_one HS.out.1; rwa [HL.out] at this
      go_wp2_with fail
      go_ret
      refine ⟨_, rfl, ?_, hb⟩
      have h1 := HS.out.2
      rw [HL.out] at h1
      have h2 := HP.out
      rw [List.take_of_length_le (by rw [← HX.out]; omega)] at h2
      rw [← h2]
      exact h1

end Go.Proofs.Ytlcliogddepmiaa

/-
  What is proved here: the contract of Merge of the thin package: it returns the merged spans; condition: at most 2^43 - 1 spans.
-/
import Derived.Test.YtpkdjdofbedncaaSpanSort
import Derived.Test.YtpkdjdofbedncaaMergePlain
import Derived.Test.YtpkdjdofbedncaaRegZ
import Derived.Deep.RegionLaw
namespace Go.Proofs.Ytpkdjdofbedncaa
open Go.RowKit
set_option linter.unusedVariables false

/-- What the first loop holds: the box of the spans, and their own row. -/
def SpanSt (T E : TypeId) (B bl g cap : Nat) (L : List (Int × Int)) (wr : World) : Prop :=
  wr.heap[bl]? = some (.cells #[.slice (some ⟨g, 0, none⟩) L.length cap] T (0, 0)) ∧ OwnK 2 enc2 E B wr (.slice (some ⟨g, 0, none⟩) L.length cap) L

theorem own_box_neK {α : Type} {K : Nat} {enc : α → List Int} {T E : TypeId} {B g cap n bl : Nat} {w : World} {L : List α} {cs : Array Value} (h : OwnK K enc E B w (.slice (some ⟨g, 0, none⟩) n cap) L) (hb : w.heap[bl]? = some (.cells cs T (0, 0))) (hne : E ≠ T) : bl ≠ g := by
  rintro rfl
  rcases h.2 with ⟨h0, _⟩ | ⟨g', cap', cur, h0, hB, hg, _⟩
  · simp at h0
  · simp only [Value.slice.injEq, Option.some.injEq, Addr.mk.injEq, and_true] at h0
    obtain ⟨rfl, _⟩ := h0
    rw [hb] at hg
    injection hg with hg
    injection hg with _ hg
    exact hne hg.symm

theorem span_app {T E : TypeId} {bl g n g2 cap2 : Nat} {L : List (Int × Int)} {p q : Int} {w w1 w2 : World} {o : Obj} {v : Value}
    (hown2 : w2.ownsRow w.heap.size E 2 (.slice (some ⟨g2, 0, none⟩) (n + 1) cap2) (n + 1) (cellsK enc2 L ++ [.int .i64 p, .int .i64 q])) (hgrow2 : (w1.alloc o).grownBy w2 (some g)) (hat2 : g2 = g ∨ g2 = (w1.alloc o).heap.size)
    (hbx : w1.heap[bl]? = some (.cells #[v] T (0, 0))) (hL : L.length = n) (hne : bl ≠ g) (hbw : Below w.heap.size w w1) (hB : w.heap.size ≤ bl) (hg : w.heap.size ≤ g) :
    w2.cell? ⟨bl, 0, none⟩ = some v ∧ w2.frozen? ⟨bl, 0, none⟩ = false ∧
    (SpanSt T E w.heap.size bl g2 cap2 (L ++ [(p, q)]) (w2.setCell ⟨bl, 0, none⟩ (.slice (some ⟨g2, 0, none⟩) (n + 1) cap2)) ∧
      Below w.heap.size w (w2.setCell ⟨bl, 0, none⟩ (.slice (some ⟨g2, 0, none⟩) (n + 1) cap2)) ∧ w1.heap.size ≤ (w2.setCell ⟨bl, 0, none⟩ (.slice (some ⟨g2, 0, none⟩) (n + 1) cap2)).heap.size) := by
  have hlt : bl < w1.heap.size := lt_of_block hbx
  have hbx2 : w2.heap[bl]? = some (.cells #[v] T (0, 0)) := (hgrow2.block bl (by simp; omega) (fun e => by injection e with e; exact hne e)).trans ((Below.heap_alloc w1 o bl hlt).trans hbx)
  have hne2 : g2 ≠ bl := by
    rcases hat2 with h | h
    · omega
    · simp at h; omega
  have hsz : w1.heap.size + 1 ≤ w2.heap.size := by have := hgrow2.size; simpa using this
  refine ⟨cell_of_one hbx2, free_of_one hbx2, ⟨?_, ?_⟩, ?_, by simp [World.setCell]; omega⟩
  · have := one_setCell (u := .slice (some ⟨g2, 0, none⟩) (n + 1) cap2) hbx2
    rw [List.length_append, hL]
    exact this
  · unfold OwnK
    rw [List.length_append, hL, cellsK_append]
    exact ownsRow_setCell_other hown2 (by simp [Value.ownBlock]; exact hne2) _
  · exact (((hbw.alloc hbw.size o)).grown hgrow2 (by have := hbw.size; simp; omega) (fun k hk => by injection hk with hk; omega)).setCell (p := ⟨bl, 0, none⟩) hB _

theorem Src.new_at (w : World) (cs : Array Value) (t : TypeId) (size b : Nat) (hb : b = w.heap.size) (hs : cs.size = 1 * size) (h1 : ∀ u ∈ cs.toList, u.oneCell' = true) : Src (w.alloc (.cells cs t)) size (some ⟨b, 0, none⟩) 1 cs.toList := by
  subst hb
  exact Src.new w cs t size hs h1
theorem full_take {l : List (Int × Int)} {j : Nat} {p q : Int} (h : l[j]? = some (p, q)) : full (l.take (j + 1)) = full (l.take j) ++ (if p < q then [(p, q)] else []) := by
  unfold full
  rw [List.take_add_one, h, List.filter_append]
  simp [List.filter_cons]
theorem fold_take {l : List (Int × Int)} {j : Nat} {s : Int × Int} (h : l[j]? = some s) : fold (l.take (j + 1)) = mstep (fold (l.take j)) s := by
  rw [List.take_add_one, h]
  exact fold_snoc _ _

theorem OwnK.cellK {α : Type} {K : Nat} {enc : α → List Int} (henc : ∀ a, (enc a).length = K) {E : TypeId} {B g cap n i j : Nat} {w : World} {L : List α} {a : α} {y : Int} (h : OwnK K enc E B w (.slice (some ⟨g, 0, none⟩) n cap) L) (hi : L[i]? = some a) (hj : (enc a)[j]? = some y) :
    w.cell? ⟨g, i * K + j, none⟩ = some (.int .i64 y) ∧ w.frozen? ⟨g, i * K + j, none⟩ = false := by
  obtain ⟨_, _, hl, _⟩ := h.lt
  have hi' : i < L.length := (List.getElem?_eq_some_iff.1 hi).1
  have hj' : j < K := by rw [← henc a]; exact (List.getElem?_eq_some_iff.1 hj).1
  unfold OwnK at h
  rw [hl] at h
  refine ⟨(h.cellAt _ ?_).trans (cellsK_at henc hi hj), h.frozenAt _⟩
  have h1 : (i + 1) * K ≤ n * K := Nat.mul_le_mul_right K (by omega)
  rw [Nat.add_mul] at h1
  omega

theorem last_cells (L0 : List (Int × Int)) (a b c : Int) : (cellsK enc2 (L0 ++ [(a, b)])).set (L0.length * 2 + 1) (.int .i64 c) = cellsK enc2 (L0 ++ [(a, c)]) := by
  rw [cellsK_append, cellsK_append]
  have hl : (cellsK enc2 L0).length = L0.length * 2 := cellsK_len len_enc2 L0
  rw [List.set_append_right _ _ (by omega), hl]
  have : L0.length * 2 + 1 - L0.length * 2 = 1 := by omega
  rw [this]
  rfl

/-- The last span's end is written. -/
theorem OutK.setLast {E : TypeId} {B g0 : Nat} {w4 wr : World} {g k cap : Nat} {L L0 : List (Int × Int)} {a b c : Int} (h : OutK 2 enc2 E B g0 w4 wr g k cap L) (hL : L = L0 ++ [(a, b)]) :
    OutK 2 enc2 E B g0 w4 (wr.setCell ⟨g, (k - 1) * 2 + 1, none⟩ (.int .i64 c)) g k cap (L0 ++ [(a, c)]) := by
  obtain ⟨h1, h2, h3, h4⟩ := h
  subst hL
  have hk : k - 1 = L0.length := by rw [← h1]; simp
  unfold OwnK at h2
  rw [h1] at h2
  have h5 := World.ownsRow.stored h2 ((k - 1) * 2 + 1) (.int .i64 c)
  refine ⟨by rw [← h1]; simp, ?_, h3, h4.andThen h5.2 (fun j hj => ?_)⟩
  · unfold OwnK
    rw [show (L0 ++ [(a, c)]).length = k by rw [← h1]; simp, ← last_cells L0 a b c, ← hk]
    exact h5.1
  · injection hj with hj
    subst hj
    rcases h3 with e | e
    · right; rw [e]
    · left; exact e

theorem run_store_int {P : Program} {o : Oper} {a : Act} {w : World} {t : TypeId} {x y : Operand} {p : Addr} {n : Int} {u : Value} (ho : o.op = .store t x y) (hx : a.eval x = .pointer (some p)) (hy : a.eval y = .int .i64 n)
    (hi : (P.info? t).map (fun i => i.size) = some 1) (hc : w.cell? p = some u) (hf : w.frozen? p = false) : (execOp a.eval o).run P w = .ok .skip (w.setCell p (.int .i64 n)) := by
  obtain ⟨i, hi1, hi2⟩ := Option.map_eq_some_iff.1 hi
  unfold execOp
  rw [ho]
  simp only [hx, hy]
  simp [Instr.storeAt, sizeOf, typeInfo, go_sem, hi1, hi2, hc, hf]
theorem wp_store_int {P : Program} {Q : Exit → Act → World → Prop} {o : Oper} {a : Act} {w : World} {t : TypeId} {x y : Operand} {p : Addr} {n : Int} {u : Value} {K : Act → World → Prop} (ho : o.op = .store t x y) (hd : o.dst = none) (hx : a.eval x = .pointer (some p)) (hy : a.eval y = .int .i64 n)
    (hi : (P.info? t).map (fun i => i.size) = some 1) (hc : w.cell? p = some u) (hf : w.frozen? p = false) (hK : K a (w.setCell p (.int .i64 n))) : o.wp P a w K Q :=
  wp_skip (run_store_int ho hx hy hi hc hf) (by rw [hd]; exact hK)

theorem one_run_Z {P : Program} {ops : Array Oper} {Q : Exit → Act → World → Prop} {md : Region.Mode} {S : World → Prop} {z fuel i : Nat} {listed : Array Bool} {o : Oper} {a : Act} {w : World} {v : Value}
    (hr : Region.ready md ops listed = [i]) (ho : ops[i]? = some o) (hg : o.guard = none) (hrun : (execOp a.eval o).run P w = .ok (.value v) w) (hS : S w) (h : wpAnyZ P md ops Q S z fuel (listed.setIfInBounds i true) (a.put o.dst v) w) :
    wpAnyZ P md ops Q S z (fuel + 1) listed a w :=
  wpAnyZ_one hr ho hg (wp_run hrun ⟨fun _ => hS, h⟩)
theorem last_store_Z {P : Program} {ops : Array Oper} {Q : Exit → Act → World → Prop} {md : Region.Mode} {S : World → Prop} {z fuel : Nat} {listed : Array Bool} {o : Oper} {a : Act} {w : World} {t : TypeId} {x y : Tmp} {p : Addr} {n : Int} {u : Value}
    (hr : Region.ready md ops listed = [z]) (ho : ops[z]? = some o) (hg : o.guard = none) (hop : o.op = .store t (.tmp x) (.tmp y)) (hd : o.dst = none) (hx : a.eval (.tmp x) = .pointer (some p)) (hy : a.eval (.tmp y) = .int .i64 n)
    (hi : (P.info? t).map (fun i => i.size) = some 1) (hc : w.cell? p = some u) (hf : w.frozen? p = false) (hr2 : Region.ready md ops (listed.setIfInBounds z true) = []) (fin : Q .normal a (w.setCell p (.int .i64 n))) :
    wpAnyZ P md ops Q S z (fuel + 1) listed a w :=
  wpAnyZ_one hr ho hg (wp_store_int hop hd hx hy hi hc hf ⟨fun h => absurd rfl h, wpAnyZ_done hr2 fin _⟩)

set_option maxRecDepth 100000 in
set_option maxHeartbeats 4000000 in
theorem merge_some (v : Value) (xs : List (Int × Int)) (w : World) (h : Ros2 w v xs) (hn : xs.length ≤ 8796093022207) :
    Calls Try.prog 18 #[v] w (MadeKS 2 enc2 37 (merged xs) w) := by
  have HRA := Lib.hid h
  obtain ⟨A, c, b0, off0, rfl, hnc, hcm, -, -⟩ := h.shape
  obtain ⟨n, hxn⟩ : ∃ n, n = xs.length := ⟨_, rfl⟩
  rw [← hxn] at HRA hn hnc ⊢
  have HX := Lib.hid hxn
  clear hxn h
  unfold maxLen at hcm
  go_enter Try.func18, Try.ntmps18
  go_wp2_with fail
  go_loopg [13] n (fun kx s13 wr => ∃ k g cap m : Nat, ∃ L : List (Int × Int), k ≤ n ∧ s13 = .int .i64 k ∧ n - k ≤ kx ∧ m ≤ k ∧ Below w.heap.size w wr ∧ w.heap.size + 1 < wr.heap.size ∧
    Hid (L.length = m) ∧ Hid (L = full (xs.take k)) ∧ Hid (SpanSt 29 37 w.heap.size (w.heap.size + 1) g cap L wr))
  case atStart =>
    refine ⟨0, w.heap.size, 0, 0, [], Nat.zero_le _, rfl, by omega, by omega, ((Below.refl _ _).alloc (Nat.le_refl _) _).alloc (by simp) _, by simp, rfl, rfl, ?_⟩
    exact ⟨by simpa using heap_alloc_new (w.alloc (.cells #[] 37)) (.cells #[.slice (some ⟨w.heap.size, 0, none⟩) 0 0] 29), (ownE (e := 37) (size := 2) w (Nat.le_refl _)).alloc _⟩
  case round =>
    obtain ⟨k, g, cap, m, L, hk, rfl, hkk, hm, hb, hsz, HL, HP, HS⟩ := hrel
    have hbox : wr.cell? ⟨w.heap.size + 1, 0, none⟩ = some (.slice (some ⟨g, 0, none⟩) m cap) := by have := cell_of_one HS.out.1; rwa [HL.out] at this
    have hfz : wr.frozen? ⟨w.heap.size + 1, 0, none⟩ = false := free_of_one HS.out.1
    obtain ⟨hgB, hgl, _, hmc, hcap⟩ := HS.out.2.lt
    rw [HL.out] at hmc
    unfold maxLen at hcap
    by_cases hlt : k < n
    · obtain ⟨p, q, hx⟩ : ∃ p q, xs[k]? = some (p, q) := ⟨_, _, List.getElem?_eq_getElem (by rw [← HX.out]; exact hlt)⟩
      obtain ⟨b, off, rfl, hc0, hc1, hbl⟩ := (HRA.out.below hb).at hx
      have HPX := Lib.hid (full_take hx)
      clear hx
      by_cases hpq : p < q
      · have hS1 : SpanSt 29 37 w.heap.size (w.heap.size + 1) g cap L (wr.alloc (.cells #[.int .i64 p, .int .i64 q] 37)) :=
          ⟨(Below.heap_alloc wr _ _ (by omega)).trans HS.out.1, World.ownsRow.alloc HS.out.2 _⟩
        have hbw : Below w.heap.size w (wr.alloc (.cells #[.int .i64 p, .int .i64 q] 37)) := hb.alloc hb.size _
        have hown : (wr.alloc (.cells #[.int .i64 p, .int .i64 q] 37)).ownsRow w.heap.size 37 2 (.slice (some ⟨g, 0, none⟩) m cap) m (cellsK enc2 L) := by
          have := hS1.2; unfold OwnK at this; rwa [HL.out] at this
        have hne := own_box_neK hS1.2 hS1.1 (by decide)
        have HO := Lib.hid hown
        have HS1 := Lib.hid hS1
        clear hown hS1
        go_wp2_with (at_builtin; refine wpList_app _ rfl (.tmp 22) (.tmp 24) rfl spans_ok w.heap.size g m cap (cellsK enc2 L) (by rfl) (HO.out.alloc _) _ 1 1 [.int .i64 p, .int .i64 q] (by rfl) (Src.new_at _ #[.int .i64 p, .int .i64 q] _ 2 _ (by simp) rfl (by simp [Value.oneCell'])) (by unfold maxLen; omega) (by omega) (by simp; omega) (m + 1) rfl _ rfl ?_; intro g2 cap2 w2 hown2 hgrow2 hat2; have hS2 := span_app (T := 29) hown2 hgrow2 hat2 HS1.out.1 HL.out hne hbw (by omega) hgB; have hcx := hS2.1; have hcf := hS2.2.1; have HT := Lib.hid hS2.2.2; clear hS2 hown2 hgrow2 hat2)
        go_roundg (n - (k + 1))
        case measure => omega
        case rel =>
          obtain ⟨t1, t2, t3⟩ := HT.out
          refine ⟨k + 1, g2, cap2, m + 1, L ++ [(p, q)], by omega, by go_num, by omega, by omega, t2, Nat.lt_of_lt_of_le (show w.heap.size + 1 < (wr.alloc (.cells #[.int .i64 p, .int .i64 q] 37)).heap.size by simp; omega) t3, by show (L ++ [(p, q)]).length = m + 1; rw [List.length_append, HL.out]; rfl, ?_, t1⟩
          show L ++ [(p, q)] = full (xs.take (k + 1))
          rw [HPX.out, ← HP.out, if_pos hpq]
      · go_wp2_with fail
        go_roundg (n - (k + 1))
        case measure => omega
        case rel =>
          refine ⟨k + 1, g, cap, m, L, by omega, by go_num, by omega, by omega, hb.alloc hb.size _, by simp; omega, HL.out, ?_, ⟨(Below.heap_alloc wr _ _ (by omega)).trans HS.out.1, World.ownsRow.alloc HS.out.2 _⟩⟩
          show L = full (xs.take (k + 1))
          rw [HPX.out, ← HP.out, if_neg (by omega), List.append_nil]
    · obtain rfl : k = n := by omega
      have HF : Hid (L = full xs) := by
        have h1 := HP.out
        rw [List.take_of_length_le (by rw [← HX.out]; omega)] at h1
        exact h1
      have hne := own_box_neK HS.out.2 HS.out.1 (by decide)
      have hO := HS.out.2
      rw [HL.out] at hO
      have HSL := Lib.hid (slice_spans w.heap.size g m cap (w.heap.size + 1) L wr hO (by omega) hbox (by omega) hne)
      clear hO
      go_wp2_with fail
      refine HSL.out.mono ?_
      rintro e w4 ⟨l, rfl, ho4, hperm, hpw, hgr4⟩
      have hb4 : Below w.heap.size w w4 := hb.grown hgr4 hb.size (fun k hk => by injection hk with hk; omega)
      have hs4 : wr.heap.size ≤ w4.heap.size := hgr4.size
      have hbox4 : w4.cell? ⟨w.heap.size + 1, 0, none⟩ = some (.slice (some ⟨g, 0, none⟩) m cap) := hgr4.cell hbox (fun e => by injection e with e; exact hne e)
      have HM : Hid (fold l = merged xs) := by
        refine merged_eq ?_ hpw
        rw [← HF.out]
        exact hperm
      have hlm : l.length = m := by rw [hperm.length_eq]; exact HL.out
      have HLM := Lib.hid hlm
      have HO4 := Lib.hid ho4
      clear HS HSL HP HF hbox hfz hperm hpw hlm ho4 hgr4
      have hbw5 : Below w.heap.size w (w4.alloc (.cells #[] 37)) := hb4.alloc hb4.size _
      have hlt4 : w.heap.size + 1 < w4.heap.size := by omega
      have hne4 : ¬ w.heap.size + 1 = w4.heap.size := by omega
      go_wp2_with fail
      go_loopg [6, 34] m (fun kx s6 s34 wr2 => ∃ (j kk g5 cap5 : Nat) (L5 : List (Int × Int)), s6 = .slice (some ⟨g5, 0, none⟩) kk cap5 ∧ s34 = .int .i64 j ∧ j ≤ m ∧ m - j ≤ kx ∧ kk ≤ j ∧ w4.heap.size < wr2.heap.size ∧
        Hid (L5 = fold (l.take j)) ∧ Hid (OutK 2 enc2 37 w.heap.size w4.heap.size (w4.alloc (.cells #[] 37)) wr2 g5 kk cap5 L5))
      case atStart => exact ⟨0, 0, w4.heap.size, 0, [], rfl, rfl, Nat.zero_le _, by omega, Nat.le_refl _, by simp, rfl, OutK.start (ownE (e := 37) (size := 2) w4 hb4.size)⟩
      case round =>
        obtain ⟨j, kk, g5, cap5, L5, rfl, rfl, hj, hjk, hkj, hsz5, HL5, HO5⟩ := hrel
        obtain ⟨hg5B, hg5l, hlc5, hcap5, _⟩ := HO5.out.lt
        unfold maxLen at hcap5
        by_cases hjm : j < m
        · obtain ⟨p, q, hx⟩ : ∃ p q, l[j]? = some (p, q) := ⟨_, _, List.getElem?_eq_getElem (by rw [HLM.out]; exact hjm)⟩
          have hg4 := HO4.out.lt
          have hO4w : OwnK 2 enc2 37 w.heap.size wr (.slice (some ⟨g, 0, none⟩) m cap) l :=
            World.ownsRow.kept (World.ownsRow.alloc HO4.out _) HO5.out.2.2.2 (.inr (by simp [Value.ownBlock]; omega))
          have hc0 := (hO4w.cellK len_enc2 hx (j := 0) (y := p) rfl).1
          have hc1 := (hO4w.cellK len_enc2 hx (j := 1) (y := q) rfl).1
          rw [Nat.add_zero] at hc0
          have HST := Lib.hid (fold_take hx)
          clear hx hO4w hg4
          rcases Nat.eq_zero_or_pos kk with hk0 | hk0
          · subst hk0
            have hnil : L5 = [] := List.eq_nil_of_length_eq_zero HO5.out.1
            have HQ := Lib.hid (show mstep L5 (p, q) = L5 ++ [(p, q)] by rw [hnil]; rfl)
            clear hnil
            have HOA := Lib.hid (HO5.out.below ((Below.refl _ _).alloc (Nat.le_refl _) (.cells #[.int .i64 p, .int .i64 q] 37)))
            go_wp2_with fail
            go_quiet (fail)
            go_wp2_with (at_builtin; refine wpList_app _ rfl (.tmp 67) (.tmp 69) rfl spans_ok w.heap.size g5 0 cap5 (cellsK enc2 L5) (by rfl) (HOA.out.row.alloc _) _ 1 1 [.int .i64 p, .int .i64 q] (by rfl) (Src.new_at _ #[.int .i64 p, .int .i64 q] _ 2 _ (by simp) rfl (by simp [Value.oneCell'])) (by unfold maxLen; omega) (by omega) (by simp; omega) (0 + 1) rfl _ rfl ?_; intro g6 cap6 w6 hown6 hgrow6 hat6)
            have hs6 : wr.heap.size ≤ w6.heap.size := by have := hgrow6.size; simp at this; omega
            have HO6 := Lib.hid ((HOA.out.below (below_drewN_self _ _)).app (x := (p, q)) hown6 hgrow6 hat6)
            clear hown6 hgrow6 hat6
            go_wp2_with fail
            go_roundg (m - (j + 1))
            case measure => omega
            case rel => exact ⟨j + 1, 0 + 1, g6, cap6, L5 ++ [(p, q)], rfl, by go_num, by omega, by omega, by omega, by omega, (by show L5 ++ [(p, q)] = _; rw [HST.out, ← HL5.out, HQ.out]), HO6.out⟩
          · obtain ⟨⟨y1, y2⟩, L0, hL0⟩ : ∃ (y : Int × Int) (L0 : List (Int × Int)), L5 = L0 ++ [y] := by
              have hne5 : L5 ≠ [] := by intro e; have := HO5.out.1; rw [e] at this; simp at this; omega
              exact ⟨_, _, (List.dropLast_concat_getLast hne5).symm⟩
            have hlast : L5[kk - 1]? = some (y1, y2) := by
              have h1 := HO5.out.1
              rw [hL0] at h1 ⊢
              rw [show kk - 1 = L0.length by simp at h1; omega]
              simp
            obtain ⟨hcy, hfy⟩ := HO5.out.2.1.cellK len_enc2 hlast (j := 1) (y := y2) rfl
            have hcyA : (wr.alloc (.cells #[.int .i64 p, .int .i64 q] 37)).cell? ⟨g5, (kk - 1) * 2 + 1, none⟩ = some (.int .i64 y2) := (World.cell?_alloc_lt wr _ _ (by exact hg5l)).trans hcy
            have hfyA : (wr.alloc (.cells #[.int .i64 p, .int .i64 q] 37)).frozen? ⟨g5, (kk - 1) * 2 + 1, none⟩ = false := (World.frozen?_alloc_old wr _ _ (show g5 ≠ wr.heap.size by omega)).trans hfy
            have HOA := Lib.hid (HO5.out.below ((Below.refl _ _).alloc (Nat.le_refl _) (.cells #[.int .i64 p, .int .i64 q] 37)))
            have HL0 := Lib.hid hL0
            clear hlast hL0
            have y1' : IntKind.i64.wrap ((kk : Int) - 1) = (kk : Int) - 1 := IntWalk.i64_in _ (by omega)
            have y2' : (0 : Int) ≤ (kk : Int) - 1 := by omega
            have y3' : (kk : Int) - 1 < (kk : Int) := by omega
            have y5' : ((kk : Int) - 1).toNat = kk - 1 := by omega
            have y6' : (0 : Int) < (kk : Int) := by omega
            have y7' : ¬ (kk : Int) < 1 := by omega
            have y8' : (1 : Int) ≤ (kk : Int) := by omega
            by_cases hle : p ≤ y2
            · have HQ := Lib.hid (show mstep L5 (p, q) = L0 ++ [(y1, max y2 q)] by
                rw [HL0.out]; unfold mstep; simp [hle])
              have hs0 : wr.heap.size < (wr.alloc (.cells #[.int .i64 p, .int .i64 q] 37)).heap.size := by simp
              go_wp2_with fail
              go_quiet (fail)
              obtain ⟨W1, hW1⟩ : ∃ W1, W1 = (wr.alloc (.cells #[.int .i64 p, .int .i64 q] 37)).drewN nq := ⟨_, rfl⟩
              rw [← hW1]
              have cA : W1.drew.cell? ⟨g5, (kk - 1) * 2 + 1, none⟩ = some (.int .i64 y2) := by rw [hW1]; exact hcyA
              have fA : W1.drew.frozen? ⟨g5, (kk - 1) * 2 + 1, none⟩ = false := by rw [hW1]; exact hfyA
              have cB : W1.drew.cell? ⟨wr.heap.size, 1, none⟩ = some (.int .i64 q) := by rw [hW1]; show (wr.alloc _).cell? _ = _; simp [go_sem]
              have HW1 := Lib.hid hW1
              clear hW1 hcyA hfyA hcy hfy hc0 hc1
              go_wp2_with fail
              refine wp_region_Z 14 (fun w' => w' = W1.drew) (by kernel_rfl) ?_
              have hS0 : W1.drew = W1.drew := rfl
              refine wpAnyZ_take (i := 0) (v := .slice (some ⟨g5, 0, none⟩) kk cap5) rfl (by decide +kernel) (by decide +kernel) (by decide +kernel) (by decide +kernel) (fun _ _ _ h => h) (.inl ⟨rfl, fun w' h => ?y0⟩) hS0 ?_
              case y0 =>
                subst h
                go_simp
              refine wpAnyZ_take (i := 1) (v := .int .i64 kk) rfl (by decide +kernel) (by decide +kernel) (by decide +kernel) (by decide +kernel) (fun _ _ _ h => h) (.inl ⟨rfl, fun w' h => ?y1⟩) hS0 ?_
              case y1 =>
                subst h
                go_simp
              refine wpAnyZ_take (i := 2) (v := .int .i64 ((kk : Int) - 1)) rfl (by decide +kernel) (by decide +kernel) (by decide +kernel) (by decide +kernel) (fun _ _ _ h => h) (.inl ⟨rfl, fun w' h => ?y2⟩) hS0 ?_
              case y2 =>
                subst h
                go_simp
              refine wpAnyZ_take (i := 3) (v := .slice (some ⟨g5, 0, none⟩) kk cap5) rfl (by decide +kernel) (by decide +kernel) (by decide +kernel) (by decide +kernel) (fun _ _ _ h => h) (.inl ⟨rfl, fun w' h => ?y3⟩) hS0 ?_
              case y3 =>
                subst h
                go_simp
              refine wpAnyZ_take (i := 4) (v := .int .i64 kk) rfl (by decide +kernel) (by decide +kernel) (by decide +kernel) (by decide +kernel) (fun _ _ _ h => h) (.inl ⟨rfl, fun w' h => ?y4⟩) hS0 ?_
              case y4 =>
                subst h
                go_simp
              refine wpAnyZ_take (i := 5) (v := .int .i64 ((kk : Int) - 1)) rfl (by decide +kernel) (by decide +kernel) (by decide +kernel) (by decide +kernel) (fun _ _ _ h => h) (.inl ⟨rfl, fun w' h => ?y5⟩) hS0 ?_
              case y5 =>
                subst h
                go_simp
              refine wpAnyZ_take (i := 6) (v := .pointer (some ⟨g5, (kk - 1) * 2, none⟩)) rfl (by decide +kernel) (by decide +kernel) (by decide +kernel) (by decide +kernel) (fun _ _ _ h => h) (.inl ⟨rfl, fun w' h => ?y6⟩) hS0 ?_
              case y6 =>
                subst h
                go_simp
              refine wpAnyZ_take (i := 7) (v := .pointer (some ⟨g5, (kk - 1) * 2 + 1, none⟩)) rfl (by decide +kernel) (by decide +kernel) (by decide +kernel) (by decide +kernel) (fun _ _ _ h => h) (.inl ⟨rfl, fun w' h => ?y7⟩) hS0 ?_
              case y7 =>
                subst h
                go_simp
              refine wpAnyZ_take (i := 8) (v := .int .i64 y2) rfl (by decide +kernel) (by decide +kernel) (by decide +kernel) (by decide +kernel) (fun _ _ _ h => h) (.inl ⟨rfl, fun w' h => ?y8⟩) hS0 ?_
              case y8 =>
                subst h
                go_simp
              refine wpAnyZ_take (i := 9) (v := .pointer (some ⟨wr.heap.size, 1, none⟩)) rfl (by decide +kernel) (by decide +kernel) (by decide +kernel) (by decide +kernel) (fun _ _ _ h => h) (.inl ⟨rfl, fun w' h => ?y9⟩) hS0 ?_
              case y9 =>
                subst h
                go_simp
              refine wpAnyZ_take (i := 10) (v := .int .i64 q) rfl (by decide +kernel) (by decide +kernel) (by decide +kernel) (by decide +kernel) (fun _ _ _ h => h) (.inl ⟨rfl, fun w' h => ?y10⟩) hS0 ?_
              case y10 =>
                subst h
                go_simp
              refine wpAnyZ_take (i := 11) (v := .int .i64 (max y2 q)) rfl (by decide +kernel) (by decide +kernel) (by decide +kernel) (by decide +kernel) (fun _ _ _ h => h) (.inl ⟨rfl, fun w' h => ?y11⟩) hS0 ?_
              case y11 =>
                subst h
                go_simp
              refine one_run_Z (i := 12) (v := .pointer (some ⟨g5, (kk - 1) * 2, none⟩)) (by decide +kernel) rfl rfl ?y12 hS0 ?_
              case y12 => go_simp
              refine wpAnyZ_take (i := 13) (v := .pointer (some ⟨g5, (kk - 1) * 2 + 1, none⟩)) rfl (by decide +kernel) (by decide +kernel) (by decide +kernel) (by decide +kernel) (fun _ _ _ h => h) (.inl ⟨rfl, fun w' h => ?y13⟩) hS0 ?_
              case y13 =>
                subst h
                go_simp
              refine last_store_Z (z := 14) (x := 66) (y := 64) (p := ⟨g5, (kk - 1) * 2 + 1, none⟩) (n := max y2 q) (by kernel_rfl) rfl rfl rfl rfl ?hx ?hy (by kernel_rfl) cA fA (by kernel_rfl) ?_
              case hx => go_simp
              case hy => go_simp
              have HO6 := Lib.hid (((HOA.out.below (below_drewN_self _ nq)).below (Below.refl _ _).drew).setLast (c := max y2 q) HL0.out)
              rw [← HW1.out] at HO6
              have hs6 : wr.heap.size ≤ (W1.drew.setCell ⟨g5, (kk - 1) * 2 + 1, none⟩ (.int .i64 (max y2 q))).heap.size := by rw [HW1.out]; simp [World.setCell]
              have HS6 := Lib.hid hs6
              clear hs6
              go_wp2_with fail
              go_roundg (m - (j + 1))
              case measure => omega
              case rel => exact ⟨j + 1, kk, g5, cap5, L0 ++ [(y1, max y2 q)], rfl, by go_num, by omega, by omega, by omega, Nat.lt_of_lt_of_le hsz5 HS6.out, (by show L0 ++ [(y1, max y2 q)] = _; rw [HST.out, ← HL5.out, HQ.out]), HO6.out⟩
            · have HQ := Lib.hid (show mstep L5 (p, q) = L5 ++ [(p, q)] by
                rw [HL0.out]; unfold mstep; simp [hle])
              go_wp2_with fail
              go_quiet (fail)
              go_wp2_with (at_builtin; refine wpList_app _ rfl (.tmp 67) (.tmp 69) rfl spans_ok w.heap.size g5 kk cap5 (cellsK enc2 L5) (by rfl) (HOA.out.row.alloc _) _ 1 1 [.int .i64 p, .int .i64 q] (by rfl) (Src.new_at _ #[.int .i64 p, .int .i64 q] _ 2 _ (by simp) rfl (by simp [Value.oneCell'])) (by unfold maxLen; omega) (by omega) (by simp; omega) (kk + 1) rfl _ rfl ?_; intro g6 cap6 w6 hown6 hgrow6 hat6)
              have hs6 : wr.heap.size ≤ w6.heap.size := by have := hgrow6.size; simp at this; omega
              have HO6 := Lib.hid ((HOA.out.below (below_drewN_self _ _)).app (x := (p, q)) hown6 hgrow6 hat6)
              clear hown6 hgrow6 hat6
              go_wp2_with fail
              go_roundg (m - (j + 1))
              case measure => omega
              case rel => exact ⟨j + 1, kk + 1, g6, cap6, L5 ++ [(p, q)], rfl, by go_num, by omega, by omega, by omega, by omega, (by show L5 ++ [(p, q)] = _; rw [HST.out, ← HL5.out, HQ.out]), HO6.out⟩
        · obtain rfl : j = m := by omega
          have hfin : L5 = merged xs := by
            rw [HL5.out, List.take_of_length_le (by rw [HLM.out]; exact Nat.le_refl _), HM.out]
          have HF := Lib.hid hfin
          clear hfin
          go_wp2_with fail
          go_ret
          exact HO5.out.madeS hbw5 hb4.size HF.out

end Go.Proofs.Ytpkdjdofbedncaa

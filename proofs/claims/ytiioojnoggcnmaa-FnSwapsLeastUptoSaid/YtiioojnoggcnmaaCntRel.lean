/-
  What is proved here: that the methods of the thin package's counter, and those of sort.Reverse of it, keep a relation between the world and the list, with the number of exchanges; no condition.
-/
import Derived.Test.YtiioojnoggcnmaaCounter
import Derived.Test.YtiioojnoggcnmaaSwapPlain
import Derived.Test.YtiioojnoggcnmaaSortMem
import Derived.Test.YtiioojnoggcnmaaIfSort
namespace Go.Proofs.Ytiioojnoggcnmaa
open Go.RowKit Go.Sort
set_option linter.unusedVariables false

/-- Nothing that lay in w has turned but the blocks g and cb. -/
def Two (w : World) (g cb : Nat) (W : World) : Prop := W.os = w.os ∧ W.tape = w.tape ∧ W.output = w.output ∧ w.heap.size ≤ W.heap.size ∧ ∀ k, k < w.heap.size → k ≠ g → k ≠ cb → W.heap[k]? = w.heap[k]?
theorem Two.near {w W W' : World} {g cb : Nat} (h : Two w g cb W) (hb : RowKit.Below w.heap.size W W') : Two w g cb W' :=
  ⟨hb.os.trans h.1, hb.tape.trans h.2.1, hb.output.trans h.2.2.1, Nat.le_trans h.2.2.2.1 hb.size, fun k h1 h2 h3 => (hb.block k h1).trans (h.2.2.2.2 k h1 h2 h3)⟩
theorem Two.set {w W : World} {g cb : Nat} (h : Two w g cb W) (p : Addr) (v : Value) (hp : p.block = g ∨ p.block = cb) : Two w g cb (W.setCell p v) :=
  ⟨h.1, h.2.1, h.2.2.1, by rw [show (W.setCell p v).heap.size = W.heap.size by simp]; exact h.2.2.2.1, fun k h1 h2 h3 => (RowKit.Below.heap_setCell W p v k (by rcases hp with e | e <;> rw [e] <;> assumption)).trans (h.2.2.2.2 k h1 h2 h3)⟩
theorem Two.drewN {w W : World} {g cb : Nat} (h : Two w g cb W) (q : Nat) : Two w g cb (W.drewN q) := ⟨h.1, h.2.1, h.2.2.1, h.2.2.2.1, h.2.2.2.2⟩

theorem own_atI {w w' : World} {B0 g n cap : Nat} {E : TypeId} {xs : List Int} (h : Own E B0 w (.slice (some ⟨g, 0, none⟩) n cap) xs) (he : w'.heap[g]? = w.heap[g]?) : Own E B0 w' (.slice (some ⟨g, 0, none⟩) n cap) xs := by
  refine ⟨h.1, ?_⟩
  rcases h.2 with h2 | ⟨g', cap', cur, hv, hB, hg, r⟩
  · exact .inl h2
  · refine .inr ⟨g', cap', cur, hv, hB, ?_, r⟩
    simp only [Value.slice.injEq, Option.some.injEq, Addr.mk.injEq, and_true] at hv
    obtain ⟨rfl, _⟩ := hv
    rw [he, hg]

/-- The world holds the counter at cb, its list d at g, which comes from d0 by at most c exchanges; nothing else has turned since w. -/
def CntAt (B0 g n cap cb : Nat) (d0 : Array Int) (w : World) (c : Nat) (W : World) (d : Array Int) : Prop :=
  ∃ k, k ≤ c ∧ Tr n d0 k d ∧ Own 3 B0 W (.slice (some ⟨g, 0, none⟩) n cap) d.toList ∧ W.cell? ⟨cb, 0, none⟩ = some (.slice (some ⟨g, 0, none⟩) n cap) ∧ W.cell? ⟨cb, 1, none⟩ = some (.int .i64 (wrap64 k)) ∧ W.frozen? ⟨cb, 1, none⟩ = false ∧ Two w g cb W

variable {B0 g n cap cb : Nat} {d0 : Array Int} {w : World}

theorem CntAt.size {c : Nat} {W : World} {d : Array Int} (h : CntAt B0 g n cap cb d0 w c W d) : d.size = n := by
  obtain ⟨k, _, _, h1, _⟩ := h
  have := (own_lt h1).2.2.1
  simpa using this
theorem CntAt.near {c : Nat} {W W' : World} {d : Array Int} (h : CntAt B0 g n cap cb d0 w c W d) (hg : g < w.heap.size) (hcb : cb < w.heap.size) (hb : RowKit.Below w.heap.size W W') : CntAt B0 g n cap cb d0 w c W' d := by
  obtain ⟨k, h1, h2, h3, h4, h5, h6, h7⟩ := h
  exact ⟨k, h1, h2, own_atI h3 (hb.block g hg), (hb.cell (p := ⟨cb, 0, none⟩) hcb).trans h4, (hb.cell (p := ⟨cb, 1, none⟩) hcb).trans h5, (hb.frozen (p := ⟨cb, 1, none⟩) hcb).trans h6, h7.near hb⟩
theorem CntAt.cell {c : Nat} {W : World} {d : Array Int} (h : CntAt B0 g n cap cb d0 w c W d) (t : Nat) (ht : t < n) : W.cell? ⟨g, t, none⟩ = some (.int .i64 d[t]!) ∧ W.frozen? ⟨g, t, none⟩ = false := by
  have hs := h.size
  obtain ⟨k, _, _, h1, _⟩ := h
  exact own_cell h1 (get_list d t (by omega))

theorem swp_self (d : Array Int) (i : Nat) (hi : i < d.size) : swp d i i = d := by
  apply Array.toList_inj.1
  rw [swp_list d i i hi hi, List.set_set]
  apply List.ext_getElem?
  intro k
  rw [List.getElem?_set]
  by_cases h : i = k
  · subst h; rw [if_pos rfl, if_pos (by simpa using hi), get_list d i hi]
  · rw [if_neg h]

theorem own_swap {E : TypeId} {B0 g n cap i j q : Nat} {W : World} {d : Array Int} (h : Own E B0 W (.slice (some ⟨g, 0, none⟩) n cap) d.toList) (hd : d.size = n) (hi : i < n) (hj : j < n) :
    Own E B0 (((W.setCell ⟨g, i, none⟩ (.int .i64 d[j]!)).setCell ⟨g, j, none⟩ (.int .i64 d[i]!)).drewN q) (.slice (some ⟨g, 0, none⟩) n cap) (swp d i j).toList := by
  have hH : Holds (Value.int .i64) W g 0 d := own_holds h
  have e2 := putRow_swp (Value.int .i64) W g 0 d i j (by omega) (by omega)
  rw [putRow_self (Value.int .i64) W g 0 d hH, Nat.zero_add, Nat.zero_add] at e2
  have h3 := own_sorted h 0 (swp d i j) #[] (by rw [size_swp]; exact hd)
  rw [Go.Sort.grow_empty] at h3
  refine own_atI h3 ?_
  show ((W.setCell ⟨g, i, none⟩ (.int .i64 d[j]!)).setCell ⟨g, j, none⟩ (.int .i64 d[i]!)).heap[g]? = _
  rw [e2]
  rfl

theorem wrap_succ (k : Nat) : wrap64 (wrap64 (k : Int) + 1) = wrap64 ((k + 1 : Nat) : Int) := by
  unfold wrap64
  omega

theorem CntAt.swap {c : Nat} {W : World} {d : Array Int} (h : CntAt B0 g n cap cb d0 w c W d) (hne : cb ≠ g) (hg : g < w.heap.size) (hcb : cb < w.heap.size) (hn : n < 4611686018427387904) (i j : Nat) (zi zj : Int) (hi : i < n) (hj : j < n) (ei : zi = i) (ej : zj = j) :
    Calls Try.prog 123 #[.pointer (some ⟨cb, 0, none⟩), .int .i64 zi, .int .i64 zj] W fun e w' => e = .returned (.tuple #[]) ∧ CntAt B0 g n cap cb d0 w (c + 1) w' (swp d i j) ∧ Past w.heap.size W w' := by
  subst ei ej
  have hs := h.size
  obtain ⟨ci, fi⟩ := h.cell i hi
  obtain ⟨cj, fj⟩ := h.cell j hj
  obtain ⟨k, h1, h2, h3, h4, h5, h6, h7⟩ := h
  have o0 : ∀ (a b : Nat), (⟨g, a, none⟩ : Addr) ≠ ⟨cb, b, none⟩ := fun a b e => by simp only [Addr.mk.injEq, and_true] at e; omega
  by_cases hij : i = j
  · subst hij
    refine (swap_same g cap cb n W d[i]! i hi hn h4 ci fi hne).mono ?_
    rintro e w' ⟨rfl, q, rfl⟩
    refine ⟨rfl, ⟨k, by omega, by rw [swp_self d i (by omega)]; exact h2, own_swap h3 hs hi hi, ?_, ?_, ?_, ((h7.set _ _ (.inl rfl)).set _ _ (.inl rfl)).drewN q⟩, ?_⟩
    · rw [World.cell?_drewN, World.cell?_setCell_other _ _ _ _ (o0 _ _), World.cell?_setCell_other _ _ _ _ (o0 _ _)]; exact h4
    · rw [World.cell?_drewN, World.cell?_setCell_other _ _ _ _ (o0 _ _), World.cell?_setCell_other _ _ _ _ (o0 _ _)]; exact h5
    · rw [World.frozen?_drewN]; simpa using h6
    · refine ⟨by simp, fun a e1 e2 => ?_⟩
      show ((W.setCell ⟨g, i, none⟩ _).setCell ⟨g, i, none⟩ _).heap[a]? = _
      rw [RowKit.Below.heap_setCell _ _ _ _ (show a ≠ g by omega), RowKit.Below.heap_setCell _ _ _ _ (show a ≠ g by omega)]
  · refine (swap_cnt g cap cb n W (wrap64 k) d[i]! d[j]! i j hi hj hn h4 h5 h6 ci cj fi fj hne hij).mono ?_
    rintro e w' ⟨rfl, q, rfl⟩
    rw [wrap_succ]
    have h3' : Own 3 B0 (W.setCell ⟨cb, 1, none⟩ (.int .i64 (wrap64 ((k + 1 : Nat) : Int)))) (.slice (some ⟨g, 0, none⟩) n cap) d.toList := own_atI h3 (RowKit.Below.heap_setCell _ _ _ _ (show g ≠ cb by omega))
    refine ⟨rfl, ⟨k + 1, by omega, ⟨d, i, j, h2, hi, hj, hij, rfl⟩, own_swap h3' hs hi hj, ?_, ?_, ?_, (((h7.set _ _ (.inr rfl)).set _ _ (.inl rfl)).set _ _ (.inl rfl)).drewN q⟩, ?_⟩
    · rw [World.cell?_drewN, World.cell?_setCell_other _ _ _ _ (o0 _ _), World.cell?_setCell_other _ _ _ _ (o0 _ _), World.cell?_setCell_other _ _ _ _ (fun e => by simp at e)]; exact h4
    · rw [World.cell?_drewN, World.cell?_setCell_other _ _ _ _ (o0 _ _), World.cell?_setCell_other _ _ _ _ (o0 _ _)]; exact World.cell?_setCell_same _ _ _ h5
    · rw [World.frozen?_drewN]; simpa using h6
    · refine ⟨by simp, fun a e1 e2 => ?_⟩
      show (((W.setCell ⟨cb, 1, none⟩ _).setCell ⟨g, i, none⟩ _).setCell ⟨g, j, none⟩ _).heap[a]? = _
      rw [RowKit.Below.heap_setCell _ _ _ _ (show a ≠ g by omega), RowKit.Below.heap_setCell _ _ _ _ (show a ≠ g by omega), RowKit.Below.heap_setCell _ _ _ _ (show a ≠ cb by omega)]

theorem cnt_less_at (p : Option Addr) (W : World) : Sem.run Try.prog (method 233 49 (.pointer p) "Less") W = .ok (122, .pointer p) W := by kernel_rfl
theorem cnt_swap_at (p : Option Addr) (W : World) : Sem.run Try.prog (method 233 49 (.pointer p) "Swap") W = .ok (123, .pointer p) W := by kernel_rfl
theorem cnt_len_at (p : Option Addr) (W : World) : Sem.run Try.prog (method 233 49 (.pointer p) "Len") W = .ok (121, .pointer p) W := by kernel_rfl

theorem CntAt.less {c : Nat} {W : World} {d : Array Int} (h : CntAt B0 g n cap cb d0 w c W d) (hg : g < w.heap.size) (hcb : cb < w.heap.size) (hn : n < 4611686018427387904) (i j : Nat) (zi zj : Int) (hi : i < n) (hj : j < n) (ei : zi = i) (ej : zj = j) :
    Calls Try.prog 122 #[.pointer (some ⟨cb, 0, none⟩), .int .i64 zi, .int .i64 zj] W fun e w' => e = .returned (.bool (ltInt d[i]! d[j]!)) ∧ CntAt B0 g n cap cb d0 w c w' d ∧ Past w.heap.size W w' := by
  subst ei ej
  have hcell := fun t ht => (h.cell t ht).1
  obtain ⟨k, h1, h2, h3, h4, h5, h6, h7⟩ := id h
  refine (less_cnt g cap cb n W (fun t => d[t]!) h4 hcell i j hi hj hn).mono ?_
  rintro e w' ⟨rfl, q, rfl⟩
  exact ⟨rfl, h.near hg hcb ⟨rfl, rfl, rfl, Nat.le_refl _, fun _ _ => rfl⟩, Past.drewN _ _ _⟩

theorem cnt_rel (hne : cb ≠ g) (hg : g < w.heap.size) (hcb : cb < w.heap.size) (hn : n < 4611686018427387904) :
    IfRel Try.prog ltInt w.heap.size n (CntAt B0 g n cap cb d0 w) 49 (.pointer (some ⟨cb, 0, none⟩)) 122 123 (.pointer (some ⟨cb, 0, none⟩)) (.pointer (some ⟨cb, 0, none⟩)) where
  near h hb := h.near hg hcb hb
  more := fun ⟨k, h1, h2⟩ hc => ⟨k, Nat.le_trans h1 hc, h2⟩
  size h := ⟨by obtain ⟨k, _, _, _, _, _, _, h7⟩ := id h; exact h7.2.2.2.1, h.size⟩
  eL := enters_of Try.func122 (by kernel_rfl) rfl
  eS := enters_of Try.func123 (by kernel_rfl) rfl
  mL _ := cnt_less_at _ _
  mS _ := cnt_swap_at _ _
  less i j zi zj h hi hj ei ej := h.less hg hcb hn i j zi zj hi hj ei ej
  swap i j zi zj h hi hj ei ej := h.swap hne hg hcb hn i j zi zj hi hj ei ej
theorem cnt_len (hne : cb ≠ g) (hg : g < w.heap.size) (hcb : cb < w.heap.size) :
    LenRel Try.prog w.heap.size n (CntAt B0 g n cap cb d0 w) 49 (.pointer (some ⟨cb, 0, none⟩)) 121 (.pointer (some ⟨cb, 0, none⟩)) where
  eN := enters_of Try.func121 (by kernel_rfl) rfl
  mN _ := cnt_len_at _ _
  len {c W d} h := by
    obtain ⟨k, h1, h2, h3, h4, h5, h6, h7⟩ := id h
    refine (len_cnt cb n _ cap W h4).mono ?_
    rintro e w' ⟨rfl, rfl⟩
    exact ⟨rfl, h, Past.refl _ _⟩

end Go.Proofs.Ytiioojnoggcnmaa

/-
  What is proved here: laws for the builtin append onto a row of the call's own (its slice not nil), the source nil, empty or not, of any element size; no program of a seat is named.
-/
import Derived.WalkKit
import Derived.WalkSpells
import Derived.Maps.AppendAt
import Derived.Deep.AppendLies
import Derived.Deep.RegionHeld3
import Derived.RegionTactic
import Derived.OwnWalk
import Derived.OneCell
namespace Go.Proofs.Ytiioojnoggcnmaa
open Go.RowKit
set_option linter.unusedVariables false

/-- t is a slice type, its element type e takes 'size' cells and 'bytes' bytes. -/
def ElemOk (P : Program) (t e : TypeId) (size bytes : Nat) : Prop :=
  P.underlying t = some (.slice e) ∧ 0 < size ∧ ∃ (i : TypeInfo) (z : Value), P.info? e = some i ∧ i.zero = some z ∧ i.size = size ∧ i.bytes = bytes ∧ z.cells.size = size

/-- What is appended: m elements whose cells are 'news'. -/
def Src (w : World) (size : Nat) (A : Option Addr) (m : Nat) (news : List Value) : Prop :=
  news.length = m * size ∧ (∀ u ∈ news, u.oneCell' = true) ∧ (0 < m → ∃ ad, A = some ad ∧ ∀ j u, news[j]? = some u → w.cell? (ad.add j) = some u)

section
variable {P : Program} (w : World)

theorem run_app {t ty e : TypeId} {size bytes : Nat} (he : ElemOk P t e size bytes) (B g n cap : Nat) (xs : List Value) (hown : w.ownsRow B e size (.slice (some ⟨g, 0, none⟩) n cap) n xs)
    (A : Option Addr) (m c : Nat) (news : List Value) (hr : Src w size A m news) (h63 : n + m ≤ maxLen) (hbytes : (n + m) * bytes ≤ 140737488355328) (hbase : B ≤ w.heap.size) :
    ∃ g' cap' w', (Builtin.append_ #[t, t] ty #[.slice (some ⟨g, 0, none⟩) n cap, .slice A m c]).run P w = .ok (.slice (some ⟨g', 0, none⟩) (n + m) cap') w' ∧
      w'.ownsRow B e size (.slice (some ⟨g', 0, none⟩) (n + m) cap') (n + m) (xs ++ news) ∧ w.grownBy w' (some g) ∧ (g' = g ∨ g' = w.heap.size) := by
  obtain ⟨ht, hsz, i, z, hi, hz, h1, h2, h3⟩ := he
  obtain ⟨hl, hone, hsrc⟩ := hr
  have hmain : ∀ ad, (∀ j u, news[j]? = some u → w.cell? (ad.add j) = some u) → ∃ g' cap' w', (Builtin.append_ #[t, t] ty #[.slice (some ⟨g, 0, none⟩) n cap, .slice (some ad) m c]).run P w = .ok (.slice (some ⟨g', 0, none⟩) (n + m) cap') w' ∧
      w'.ownsRow B e size (.slice (some ⟨g', 0, none⟩) (n + m) cap') (n + m) (xs ++ news) ∧ w.grownBy w' (some g) ∧ (g' = g ∨ g' = w.heap.size) := by
    intro ad hc
    obtain ⟨v', w', hrun, hown', hg, hnil, hat⟩ := run_append_own_at (P := P) w B t ty e i z size bytes ht hi hz h1 h2 h3 hsz _ n xs hown ad m c news hl hc hone h63 hbytes hbase
    rcases hown'.2 with ⟨rfl, h0⟩ | ⟨g', cap', cur, rfl, rest⟩
    · have := (hnil.1 rfl).1
      simp at this
    · exact ⟨g', cap', w', hrun, hown', hg, by simpa [Value.ownBlock] using hat⟩
  rcases Nat.eq_zero_or_pos m with h0 | h0
  · subst h0
    have hn : news = [] := List.eq_nil_of_length_eq_zero (by simpa using hl)
    subst hn
    cases A with
    | none =>
      refine ⟨g, cap, w, ?_, by simpa using hown, World.grownBy.refl w _, .inl rfl⟩
      rcases hown.2 with ⟨h, _⟩ | ⟨g', cap', cur, h, _, _, hnc, _⟩
      · simp at h
      · simp only [Value.slice.injEq, Option.some.injEq, Addr.mk.injEq, and_true, true_and] at h
        obtain ⟨rfl, rfl⟩ := h
        simp [Builtin.append_, run_underlying ht, sizeOf, typeInfo, hi, Builtin.lenOf, Builtin.firstCells, hnc, storeCells]
    | some ad => exact hmain ad (fun j u hu => by simp at hu)
  · obtain ⟨ad, rfl, hc⟩ := hsrc h0
    exact hmain ad hc

theorem wp_app {o : Oper} {a : Act} {K : Act → World → Prop} {Q : Exit → Act → World → Prop} {s x : Operand} {t e : TypeId} {size bytes : Nat}
    (ho : o.op = .call { callee := .builtin .append, args := #[s, x], argTypes := #[t, t] }) (he : ElemOk P t e size bytes) (B g n cap : Nat) (xs : List Value) (hs : a.eval s = .slice (some ⟨g, 0, none⟩) n cap)
    (hown : w.ownsRow B e size (.slice (some ⟨g, 0, none⟩) n cap) n xs) (A : Option Addr) (m c : Nat) (news : List Value) (hx : a.eval x = .slice A m c) (hr : Src w size A m news)
    (h63 : n + m ≤ maxLen) (hbytes : (n + m) * bytes ≤ 140737488355328) (hbase : B ≤ w.heap.size) (N : Nat) (hN : n + m = N) (zs : List Value) (hzs : xs ++ news = zs)
    (h : ∀ g' cap' w', w'.ownsRow B e size (.slice (some ⟨g', 0, none⟩) N cap') N zs → w.grownBy w' (some g) → (g' = g ∨ g' = w.heap.size) → K (a.put o.dst (.slice (some ⟨g', 0, none⟩) N cap')) w') : o.wp P a w K Q := by
  obtain ⟨g', cap', w', hrun, h2, h3, h4⟩ := run_app (P := P) (ty := o.type) w he B g n cap xs hown A m c news hr h63 hbytes hbase
  subst hN hzs
  unfold Oper.wp execOp
  simp only [ho, resolve, invoke, builtin, Sem.run_bind, Sem.run_pure, Result.andThen_ok, List.map_toArray, List.map_cons, List.map_nil, hs, hx, hrun]
  exact h g' cap' w' h2 h3 h4

theorem wpList_app {ops : Array Oper} {rest : List Oper} {o : Oper} {a : Act} {Q : Exit → Act → World → Prop} (hgd : o.guard = none) (s x : Operand) {t e : TypeId} {size bytes : Nat}
    (ho : o.op = .call { callee := .builtin .append, args := #[s, x], argTypes := #[t, t] }) (he : ElemOk P t e size bytes) (B g n cap : Nat) (xs : List Value) (hs : a.eval s = .slice (some ⟨g, 0, none⟩) n cap)
    (hown : w.ownsRow B e size (.slice (some ⟨g, 0, none⟩) n cap) n xs) (A : Option Addr) (m c : Nat) (news : List Value) (hx : a.eval x = .slice A m c) (hr : Src w size A m news)
    (h63 : n + m ≤ maxLen) (hbytes : (n + m) * bytes ≤ 140737488355328) (hbase : B ≤ w.heap.size) (N : Nat) (hN : n + m = N) (zs : List Value) (hzs : xs ++ news = zs)
    (h : ∀ g' cap' w', w'.ownsRow B e size (.slice (some ⟨g', 0, none⟩) N cap') N zs → w.grownBy w' (some g) → (g' = g ∨ g' = w.heap.size) → wpList P ops Q rest (a.put o.dst (.slice (some ⟨g', 0, none⟩) N cap')) w') :
    wpList P ops Q (o :: rest) a w :=
  wpList_plain hgd fun _ hK => wp_app w ho he B g n cap xs hs hown A m c news hx hr h63 hbytes hbase N hN zs hzs fun g' cap' w' h2 h3 h4 => hK _ _ (h g' cap' w' h2 h3 h4)

theorem step_app {ops : Array Oper} {o : Oper} {a : Act} {K : Act → World → Prop} {Q : Exit → Act → World → Prop} {E : Prop} (hgd : o.guard = none) (s x : Operand) {t e : TypeId} {size bytes : Nat}
    (ho : o.op = .call { callee := .builtin .append, args := #[s, x], argTypes := #[t, t] }) (he : ElemOk P t e size bytes) (B g n cap : Nat) (xs : List Value) (hs : a.eval s = .slice (some ⟨g, 0, none⟩) n cap)
    (hown : w.ownsRow B e size (.slice (some ⟨g, 0, none⟩) n cap) n xs) (A : Option Addr) (m c : Nat) (news : List Value) (hx : a.eval x = .slice A m c) (hr : Src w size A m news)
    (h63 : n + m ≤ maxLen) (hbytes : (n + m) * bytes ≤ 140737488355328) (hbase : B ≤ w.heap.size) (N : Nat) (hN : n + m = N) (zs : List Value) (hzs : xs ++ news = zs)
    (h : ∀ g' cap' w', w'.ownsRow B e size (.slice (some ⟨g', 0, none⟩) N cap') N zs → w.grownBy w' (some g) → (g' = g ∨ g' = w.heap.size) → K (a.put o.dst (.slice (some ⟨g', 0, none⟩) N cap')) w') :
    if Region.wanted o (yielded ops a.tmps) = true then Oper.wp P o a w K Q else E := by
  have hw : Region.wanted o (yielded ops a.tmps) = true := by simp [Region.wanted, hgd]
  rw [if_pos hw]
  exact wp_app w ho he B g n cap xs hs hown A m c news hx hr h63 hbytes hbase N hN zs hzs h
end

theorem Src.kept {w w' : World} {size : Nat} {A : Option Addr} {m : Nat} {news : List Value} (h : Src w size A m news) (hk : ∀ p u, w.cell? p = some u → w'.cell? p = some u) : Src w' size A m news :=
  ⟨h.1, h.2.1, fun hm => by
    obtain ⟨ad, e, hc⟩ := h.2.2 hm
    exact ⟨ad, e, fun j u hu => hk _ _ (hc j u hu)⟩⟩
theorem Src.below {w w' : World} {size : Nat} {A : Option Addr} {m : Nat} {news : List Value} (h : Src w size A m news) (hb : Below w.heap.size w w') : Src w' size A m news :=
  h.kept fun p u hp => (hb.cell (World.block_lt_of_cell? _ _ hp)).trans hp
theorem Src.alloc {w : World} {size : Nat} {A : Option Addr} {m : Nat} {news : List Value} (h : Src w size A m news) (o : Obj) : Src (w.alloc o) size A m news :=
  h.below ((Below.refl _ _).alloc (Nat.le_refl _) o)
theorem Src.drew {w : World} {size : Nat} {A : Option Addr} {m : Nat} {news : List Value} (h : Src w size A m news) : Src w.drew size A m news := h
theorem add_none (b o j : Nat) : (⟨b, o, none⟩ : Addr).add j = ⟨b, o + j, none⟩ := by unfold Addr.add; split <;> simp_all
/-- A new block of one element's cells, as the source of an append. -/
theorem Src.new (w : World) (cs : Array Value) (t : TypeId) (size : Nat) (hs : cs.size = 1 * size) (h1 : ∀ u ∈ cs.toList, u.oneCell' = true) : Src (w.alloc (.cells cs t)) size (some ⟨w.heap.size, 0, none⟩) 1 cs.toList :=
  ⟨by simpa using hs, h1, fun _ => ⟨_, rfl, World.news_of_block (heap_alloc_new w _)⟩⟩

theorem Src.grown {w w' : World} {size b m g : Nat} {news : List Value} (h : Src w size (some ⟨b, 0, none⟩) m news) (hg : w.grownBy w' (some g)) (hne : b ≠ g) : Src w' size (some ⟨b, 0, none⟩) m news :=
  ⟨h.1, h.2.1, fun hm => by
    obtain ⟨ad, e, hc⟩ := h.2.2 hm
    refine ⟨ad, e, fun j u hu => ?_⟩
    have h1 := hc j u hu
    injection e with e
    subst e
    rw [add_none] at h1 ⊢
    exact hg.cell h1 (fun e => by injection e with e; exact hne e)⟩
/-- One integer in a new block, as the source of an append. -/
theorem Src.one (w : World) (x : Int) (t : TypeId) : Src (w.alloc (.cells #[.int .i64 x] t)) 1 (some ⟨w.heap.size, 0, none⟩) 1 [.int .i64 x] :=
  Src.new w #[.int .i64 x] t 1 rfl (by simp [Value.oneCell'])
theorem Src.one_at (w : World) (x : Int) (t : TypeId) (b : Nat) (hb : b = w.heap.size) : Src (w.alloc (.cells #[.int .i64 x] t)) 1 (some ⟨b, 0, none⟩) 1 [.int .i64 x] := by
  subst hb
  exact Src.one w x t
/-- An empty slice literal. -/
theorem ownE {e : TypeId} {size : Nat} {B : Nat} (w : World) (hB : B ≤ w.heap.size) : (w.alloc (.cells #[] e)).ownsRow B e size (.slice (some ⟨w.heap.size, 0, none⟩) 0 0) 0 [] :=
  World.ownsRow_made w #[] 0 hB (Nat.zero_le _) (by simp)
theorem ownE_at {e : TypeId} {size : Nat} {B : Nat} (w : World) (hB : B ≤ w.heap.size) (b : Nat) (hb : b = w.heap.size) : (w.alloc (.cells #[] e)).ownsRow B e size (.slice (some ⟨b, 0, none⟩) 0 0) 0 [] := by
  subst hb
  exact ownE w hB
theorem below_app {w1 w w' : World} {g : Nat} (hg : w.grownBy w' (some g)) (hB : w1.heap.size ≤ g) (hb : Below w1.heap.size w1 w) : Below w1.heap.size w1 w' :=
  hb.grown hg hb.size (fun k hk => by injection hk with hk; omega)

section
variable {P : Program} (w : World)
/-- append(v[:j], v[j+1:]...) on a row of the call's own: the element at j is gone, in place. -/
theorem run_del {t ty e : TypeId} {bytes : Nat} (he : ElemOk P t e 1 bytes) (B g n cap j : Nat) (xs : List Value) (hown : w.ownsRow B e 1 (.slice (some ⟨g, 0, none⟩) n cap) n xs) (h1 : ∀ u ∈ xs, u.oneCell' = true) (hj : j < n)
    (A : Option Addr) (hA : A = if cap = j + 1 then some ⟨g, 0, none⟩ else some ⟨g, j + 1, none⟩) (c : Nat) :
    ∃ w', (Builtin.append_ #[t, t] ty #[.slice (some ⟨g, 0, none⟩) j cap, .slice A (n - (j + 1)) c]).run P w = .ok (.slice (some ⟨g, 0, none⟩) (n - 1) cap) w' ∧
      w'.ownsRow B e 1 (.slice (some ⟨g, 0, none⟩) (n - 1) cap) (n - 1) (xs.eraseIdx j) ∧ w.grownBy w' (some g) := by
  obtain ⟨ht, _, i, z, hi, hz, hs1, _, _⟩ := he
  rcases hown.2 with ⟨h0, _⟩ | ⟨g', cap', cur, h0, hB, hg, hnc, hcm, hcs, htk⟩
  · simp at h0
  simp only [Value.slice.injEq, Option.some.injEq, Addr.mk.injEq, and_true, true_and] at h0
  obtain ⟨rfl, rfl⟩ := h0
  have hxl : xs.length = n := by simpa using hown.1
  obtain ⟨a, rfl, ha⟩ : ∃ a, A = some a ∧ (0 < n - (j + 1) → a = ⟨g, j + 1, none⟩) := by
    subst hA
    split
    · exact ⟨_, rfl, fun h => by omega⟩
    · exact ⟨_, rfl, fun _ => rfl⟩
  have hnews : ∀ k u, (xs.drop (j + 1))[k]? = some u → w.cell? (a.add k) = some u := by
    intro k u hu
    have hk := (List.getElem?_eq_some_iff.1 hu).1
    rw [List.length_drop] at hk
    rw [ha (by omega), add_none]
    rw [List.getElem?_drop] at hu
    rw [hown.cellAt (j + 1 + k) (by omega)]
    exact hu
  have hfit : j * i.size + (xs.drop (j + 1)).length ≤ cur.size := by rw [hs1, hcs, List.length_drop]; omega
  have hr := run_append_room (P := P) w t ty e i ht hi g j cap cur hg a (n - (j + 1)) c (xs.drop (j + 1)) (by rw [List.length_drop, hs1]; omega) hnews (fun u hu => h1 u (List.mem_of_mem_drop hu)) (by omega) hfit
  have hn1 : j + (n - (j + 1)) = n - 1 := by omega
  rw [hn1] at hr
  refine ⟨_, hr, ⟨?_, .inr ⟨g, cap, _, rfl, hB, setRow_heap w g cur _ e _ hg, by omega, hcm, ?_, ?_⟩⟩, ⟨rfl, rfl, rfl, by simp, fun k _ hk => setRow_other w g k _ (fun e => hk (by simp [e]))⟩⟩
  · rw [List.length_eraseIdx, if_pos (by omega)]; omega
  · simp only [List.size_toArray, List.length_append, List.length_take, List.length_drop, Array.length_toList, hs1]
    omega
  · have h5 : cur.toList.take (j * i.size) = xs.take j := by
      rw [← htk, List.take_take, hs1]
      congr 1
      omega
    rw [h5, List.eraseIdx_eq_take_drop_succ]
    have h6 : (xs.take j ++ xs.drop (j + 1)).length = (n - 1) * 1 := by simp; omega
    rw [← h6]
    exact List.take_left

theorem step_del {ops : Array Oper} {o : Oper} {a : Act} {K : Act → World → Prop} {Q : Exit → Act → World → Prop} {E : Prop} (hgd : o.guard = none) (s x : Operand) {t e : TypeId} {bytes : Nat}
    (ho : o.op = .call { callee := .builtin .append, args := #[s, x], argTypes := #[t, t] }) (he : ElemOk P t e 1 bytes) (B g n cap j : Nat) (xs : List Value) (hs : a.eval s = .slice (some ⟨g, 0, none⟩) j cap)
    (hown : w.ownsRow B e 1 (.slice (some ⟨g, 0, none⟩) n cap) n xs) (h1 : ∀ u ∈ xs, u.oneCell' = true) (hj : j < n) (A : Option Addr) (m c : Nat) (hx : a.eval x = .slice A m c) (hm : m = n - (j + 1)) (hA : A = if cap = j + 1 then some ⟨g, 0, none⟩ else some ⟨g, j + 1, none⟩)
    (h : ∀ w', w'.ownsRow B e 1 (.slice (some ⟨g, 0, none⟩) (n - 1) cap) (n - 1) (xs.eraseIdx j) → w.grownBy w' (some g) → K (a.put o.dst (.slice (some ⟨g, 0, none⟩) (n - 1) cap)) w') :
    if Region.wanted o (yielded ops a.tmps) = true then Oper.wp P o a w K Q else E := by
  have hw : Region.wanted o (yielded ops a.tmps) = true := by simp [Region.wanted, hgd]
  rw [if_pos hw]
  subst hm
  obtain ⟨w', hrun, h2, h3⟩ := run_del (P := P) (ty := o.type) w he B g n cap j xs hown h1 hj A hA c
  unfold Oper.wp execOp
  simp only [ho, resolve, invoke, builtin, Sem.run_bind, Sem.run_pure, Result.andThen_ok, List.map_toArray, List.map_cons, List.map_nil, hs, hx, hrun]
  exact h w' h2 h3
end

end Go.Proofs.Ytiioojnoggcnmaa

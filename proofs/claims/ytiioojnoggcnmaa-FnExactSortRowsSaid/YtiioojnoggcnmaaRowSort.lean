/-
  What is proved here: the contract of sort.SliceStable as impl.SortRows calls it (rows by one key): the stable sort; condition: fewer than 2^60 rows. Written by wip/gen/rowsort.py.
-/
import Derived.Test.YtiioojnoggcnmaaSortMemK
import Derived.Test.YtiioojnoggcnmaaShelfT
import Derived.Test.YtiioojnoggcnmaaFnStable
import Derived.Test.YtiioojnoggcnmaaStabList
import Derived.Shelf.GgSortMore.Stable
import Derived.Deep.QuietTactic
namespace Go.Proofs.Ytiioojnoggcnmaa
open Go.RowKit
set_option linter.unusedVariables false

theorem row_info : (Try.prog.info? 45).map (fun i => (i.zero, i.size, i.bytes)) = some (some (.agg #[.int .i64 0, .int .i64 0, .int .i64 0]), 3, 24) := by kernel_rfl
theorem rows_ok : ElemOk Try.prog 31 45 3 24 := by
  obtain ⟨i0, hi, hz0, hz1, hz2⟩ := info_parts row_info
  exact ⟨Try.underlying31, by omega, i0, _, hi, hz0, hz1, hz2, rfl⟩
noncomputable def rwT : TypeInfo := (Try.prog.info? 31).get (by kernel_rfl)
noncomputable def rwE : TypeInfo := (Try.prog.info? 45).get (by kernel_rfl)
theorem rwK (n : Nat) (h2 : 2 ≤ n) : Lib.swapperK n rwE 25 = 9 := by
  have a : rwE.hasPointers = false := by kernel_rfl
  have b : rwE.bytes = 24 := by kernel_rfl
  have c : (n == 0) = false := by simp; omega
  have d : (n == 1) = false := by simp; omega
  simp [Lib.swapperK, a, b, c, d]

theorem OwnK.cellK {α : Type} {K : Nat} {enc : α → List Int} (henc : ∀ a, (enc a).length = K) {E : TypeId} {B g cap n i j : Nat} {w : World} {L : List α} {a : α} {y : Int} (h : OwnK K enc E B w (.slice (some ⟨g, 0, none⟩) n cap) L) (hi : L[i]? = some a) (hj : (enc a)[j]? = some y) :
    w.cell? ⟨g, i * K + j, none⟩ = some (.int .i64 y) ∧ w.frozen? ⟨g, i * K + j, none⟩ = false := by
  obtain ⟨_, _, hl, _⟩ := h.lt
  have hi' : i < L.length := (List.getElem?_eq_some_iff.1 hi).1
  have hj' : j < K := by rw [← henc a]; exact (List.getElem?_eq_some_iff.1 hj).1
  unfold OwnK at h
  rw [hl] at h
  refine ⟨(h.cellAt _ ?_).trans (cellsK_at henc hi hj), h.frozenAt _⟩
  have h1 : (i + 1) * K ≤ n * K := Nat.mul_le_mul_right K (by omega)
  rw [Nat.add_mul] at h1
  omega

/-- A row's key. -/
def keyOf (k : Nat) (r : Int × Int × Int) : Int := if k = 0 then r.1 else if k = 1 then r.2.1 else r.2.2
def ltKey (k : Nat) (a b : Int × Int × Int) : Bool := decide (keyOf k a < keyOf k b)
theorem swo_ltKey (k : Nat) : Go.Sort.SWO (ltKey k) := by
  constructor <;> intros <;> simp_all [ltKey] <;> omega

theorem own_at {w w' : World} {B0 size g n cap : Nat} {e : TypeId} {xs : List Value} (h : w.ownsRow B0 e size (.slice (some ⟨g, 0, none⟩) n cap) n xs) (he : w'.heap[g]? = w.heap[g]?) : w'.ownsRow B0 e size (.slice (some ⟨g, 0, none⟩) n cap) n xs := by
  refine ⟨h.1, ?_⟩
  rcases h.2 with h2 | ⟨g', cap', cur, hv, hB, hg, r⟩
  · exact .inl h2
  · refine .inr ⟨g', cap', cur, hv, hB, ?_, r⟩
    simp only [Value.slice.injEq, Option.some.injEq, Addr.mk.injEq, and_true, true_and] at hv
    obtain ⟨rfl, _⟩ := hv
    rw [he, hg]

/-- What the sort of rows holds: the row at g, the box of the slice, and nothing else changed since w. -/
def RowsAt (w : World) (B0 g n cap bx : Nat) (W : World) (d : Array (Int × Int × Int)) : Prop :=
  OwnK 3 enc3 45 B0 W (.slice (some ⟨g, 0, none⟩) n cap) d.toList ∧ w.grownBy W (some g)
theorem RowsAt.near {w : World} {B0 g n cap bx : Nat} {W W' : World} {d : Array (Int × Int × Int)} (h : RowsAt w B0 g n cap bx W d) (hg : g < w.heap.size) (hb : Below w.heap.size W W') : RowsAt w B0 g n cap bx W' d := by
  obtain ⟨h1, h2⟩ := h
  have hl := h1.lt.2.2.1
  refine ⟨?_, ⟨hb.os.trans h2.os, hb.tape.trans h2.tape, hb.output.trans h2.output, Nat.le_trans h2.size hb.size, fun k hk hne => (hb.block k hk).trans (h2.block k hk hne)⟩⟩
  unfold OwnK at h1 ⊢
  rw [hl] at h1 ⊢
  exact own_at h1 (hb.block g hg)

set_option maxHeartbeats 2000000 in
theorem less_rows0 (blk off c Bs size : Nat) (W : World) (G : Nat → Int) (hs : W.cell? ⟨Bs, 0, none⟩ = some (.slice (some ⟨blk, off, none⟩) size c))
    (hc : ∀ t, t < size → W.cell? ⟨blk, off + t * 3, none⟩ = some (.int .i64 (G t))) (i j : Nat) (hi : i < size) (hj : j < size) (_hsz : size < 4611686018427387904) :
    Calls Try.prog 44 #[.int .i64 i, .int .i64 j, .pointer (some ⟨Bs, 0, none⟩)] W fun e w' => e = .returned (.bool (decide (G i < G j))) ∧ ∃ q, w' = W.drewN q := by
  have ci := hc i hi
  have cj := hc j hj
  go_enter Try.func44, Try.ntmps44
  go_wp2
  go_quiet (fail)
  go_wp2
  go_ret
  exact ⟨rfl, nq, rfl⟩
theorem rows_rel0 (w : World) (B0 g n cap bx : Nat) (hg : g < w.heap.size) (hbx : w.cell? ⟨bx, 0, none⟩ = some (.slice (some ⟨g, 0, none⟩) n cap)) (hne : bx ≠ g) (hn : n < 4611686018427387904) (h2 : 2 ≤ n) :
    FnRel Try.prog (ltKey 0) w.heap.size n (RowsAt w B0 g n cap bx) 44 #[.pointer (some ⟨bx, 0, none⟩)] 81 #[.slice (some ⟨g, 0, none⟩) n cap, typeHandle Try.prog 45] where
  near h hb := h.near hg hb
  size h := ⟨h.2.size, by have := h.1.lt.2.2.1; simpa using this⟩
  eg := enters_of Try.func44 (by kernel_rfl) rfl
  less {W d} i j zi zj h hi hj ei ej := by
    subst ei ej
    have hl : d.toList.length = n := h.1.lt.2.2.1
    have hbxW : W.cell? ⟨bx, 0, none⟩ = some (.slice (some ⟨g, 0, none⟩) n cap) := h.2.cell hbx (fun e => by injection e with e; exact hne e)
    have hcell : ∀ t, t < n → W.cell? ⟨g, 0 + t * 3, none⟩ = some (.int .i64 (keyOf 0 d[t]!)) := fun t ht => by
      have hx : d.toList[t]? = some d[t]! := by
        have ht' : t < d.size := by simpa using (by omega : t < d.toList.length)
        rw [Array.getElem?_toList, Array.getElem?_eq_getElem ht', getElem!_pos d t ht']
      generalize d[t]! = v at hx ⊢
      obtain ⟨x, y, z⟩ := v
      rw [Nat.zero_add]
      exact (h.1.cellK len_enc3 hx (j := 0) (y := keyOf 0 (x, y, z)) rfl).1
    refine (less_rows0 g 0 cap bx n W (fun t => keyOf 0 d[t]!) hbxW hcell i j hi hj hn).mono ?_
    rintro e w' ⟨rfl, q, rfl⟩
    exact ⟨rfl, h.near hg ⟨rfl, rfl, rfl, Nat.le_refl _, fun _ _ => rfl⟩, Past.drewN _ _ _⟩
  swap {W d} i j zi zj h hi hj ei ej := by
    subst ei ej
    have hl : d.toList.length = n := h.1.lt.2.2.1
    have hds : d.size = n := by simpa using hl
    have hH : Go.Sort.HoldsK (encV enc3) 3 W g 0 d := own_holdsK len_enc3 (by omega) h.1
    have hs := swapSwapsK_of_literal (P := Try.prog) false 81 (fun args W => run_callFunc_extern Try.func81 (by kernel_rfl) (by kernel_rfl) (by kernel_rfl) (e := Extern.ReflectliteSwapper.swap false) (by kernel_rfl) args W)
      45 rwE (by kernel_rfl) (encV enc3) 3 (encV_len len_enc3) (by kernel_rfl) (fun _ => by kernel_rfl) (fun x v hv => encV_one x v hv) g 0 n cap W d hH hds i j hi hj
    refine ⟨_, hs, ?_⟩
    have e1 : ((W.setCells g (0 + i * 3) (encV enc3 d[j]!)).setCells g (0 + j * 3) (encV enc3 d[i]!)) = Go.Sort.grow (Go.Sort.putRowK (encV enc3) 3 (Go.Sort.ahead W 0) g 0 (Go.Sort.swp d i j)) #[] := by
      rw [Go.Sort.grow_empty]
      have e2 := Go.Sort.putRowK_swp (encV enc3) 3 (encV_len len_enc3) W g 0 d i j (by omega) (by omega)
      rw [Go.Sort.putRowK_self (encV enc3) 3 W g 0 d hH] at e2
      exact e2
    rw [e1]
    have hgr := grownBy_sortedK (enc := enc3) (K := 3) W 0 g 0 (Go.Sort.swp d i j) #[]
    refine ⟨⟨own_sortedK len_enc3 (by omega) h.1 0 (Go.Sort.swp d i j) #[] (by rw [Go.Sort.size_swp]; exact hds), h.2.trans hgr⟩, hgr.size, fun k hk1 hk2 => hgr.block k hk2 (fun e => by injection e with e; omega)⟩

set_option maxHeartbeats 2000000 in
theorem less_rows1 (blk off c Bs size : Nat) (W : World) (G : Nat → Int) (hs : W.cell? ⟨Bs, 0, none⟩ = some (.slice (some ⟨blk, off, none⟩) size c))
    (hc : ∀ t, t < size → W.cell? ⟨blk, off + t * 3 + 1, none⟩ = some (.int .i64 (G t))) (i j : Nat) (hi : i < size) (hj : j < size) (_hsz : size < 4611686018427387904) :
    Calls Try.prog 45 #[.int .i64 i, .int .i64 j, .pointer (some ⟨Bs, 0, none⟩)] W fun e w' => e = .returned (.bool (decide (G i < G j))) ∧ ∃ q, w' = W.drewN q := by
  have ci := hc i hi
  have cj := hc j hj
  go_enter Try.func45, Try.ntmps45
  go_wp2
  go_quiet (fail)
  go_wp2
  go_ret
  exact ⟨rfl, nq, rfl⟩
theorem rows_rel1 (w : World) (B0 g n cap bx : Nat) (hg : g < w.heap.size) (hbx : w.cell? ⟨bx, 0, none⟩ = some (.slice (some ⟨g, 0, none⟩) n cap)) (hne : bx ≠ g) (hn : n < 4611686018427387904) (h2 : 2 ≤ n) :
    FnRel Try.prog (ltKey 1) w.heap.size n (RowsAt w B0 g n cap bx) 45 #[.pointer (some ⟨bx, 0, none⟩)] 81 #[.slice (some ⟨g, 0, none⟩) n cap, typeHandle Try.prog 45] where
  near h hb := h.near hg hb
  size h := ⟨h.2.size, by have := h.1.lt.2.2.1; simpa using this⟩
  eg := enters_of Try.func45 (by kernel_rfl) rfl
  less {W d} i j zi zj h hi hj ei ej := by
    subst ei ej
    have hl : d.toList.length = n := h.1.lt.2.2.1
    have hbxW : W.cell? ⟨bx, 0, none⟩ = some (.slice (some ⟨g, 0, none⟩) n cap) := h.2.cell hbx (fun e => by injection e with e; exact hne e)
    have hcell : ∀ t, t < n → W.cell? ⟨g, 0 + t * 3 + 1, none⟩ = some (.int .i64 (keyOf 1 d[t]!)) := fun t ht => by
      have hx : d.toList[t]? = some d[t]! := by
        have ht' : t < d.size := by simpa using (by omega : t < d.toList.length)
        rw [Array.getElem?_toList, Array.getElem?_eq_getElem ht', getElem!_pos d t ht']
      generalize d[t]! = v at hx ⊢
      obtain ⟨x, y, z⟩ := v
      rw [Nat.zero_add]
      exact (h.1.cellK len_enc3 hx (j := 1) (y := keyOf 1 (x, y, z)) rfl).1
    refine (less_rows1 g 0 cap bx n W (fun t => keyOf 1 d[t]!) hbxW hcell i j hi hj hn).mono ?_
    rintro e w' ⟨rfl, q, rfl⟩
    exact ⟨rfl, h.near hg ⟨rfl, rfl, rfl, Nat.le_refl _, fun _ _ => rfl⟩, Past.drewN _ _ _⟩
  swap {W d} i j zi zj h hi hj ei ej := by
    subst ei ej
    have hl : d.toList.length = n := h.1.lt.2.2.1
    have hds : d.size = n := by simpa using hl
    have hH : Go.Sort.HoldsK (encV enc3) 3 W g 0 d := own_holdsK len_enc3 (by omega) h.1
    have hs := swapSwapsK_of_literal (P := Try.prog) false 81 (fun args W => run_callFunc_extern Try.func81 (by kernel_rfl) (by kernel_rfl) (by kernel_rfl) (e := Extern.ReflectliteSwapper.swap false) (by kernel_rfl) args W)
      45 rwE (by kernel_rfl) (encV enc3) 3 (encV_len len_enc3) (by kernel_rfl) (fun _ => by kernel_rfl) (fun x v hv => encV_one x v hv) g 0 n cap W d hH hds i j hi hj
    refine ⟨_, hs, ?_⟩
    have e1 : ((W.setCells g (0 + i * 3) (encV enc3 d[j]!)).setCells g (0 + j * 3) (encV enc3 d[i]!)) = Go.Sort.grow (Go.Sort.putRowK (encV enc3) 3 (Go.Sort.ahead W 0) g 0 (Go.Sort.swp d i j)) #[] := by
      rw [Go.Sort.grow_empty]
      have e2 := Go.Sort.putRowK_swp (encV enc3) 3 (encV_len len_enc3) W g 0 d i j (by omega) (by omega)
      rw [Go.Sort.putRowK_self (encV enc3) 3 W g 0 d hH] at e2
      exact e2
    rw [e1]
    have hgr := grownBy_sortedK (enc := enc3) (K := 3) W 0 g 0 (Go.Sort.swp d i j) #[]
    refine ⟨⟨own_sortedK len_enc3 (by omega) h.1 0 (Go.Sort.swp d i j) #[] (by rw [Go.Sort.size_swp]; exact hds), h.2.trans hgr⟩, hgr.size, fun k hk1 hk2 => hgr.block k hk2 (fun e => by injection e with e; omega)⟩

set_option maxHeartbeats 2000000 in
theorem less_rows2 (blk off c Bs size : Nat) (W : World) (G : Nat → Int) (hs : W.cell? ⟨Bs, 0, none⟩ = some (.slice (some ⟨blk, off, none⟩) size c))
    (hc : ∀ t, t < size → W.cell? ⟨blk, off + t * 3 + 2, none⟩ = some (.int .i64 (G t))) (i j : Nat) (hi : i < size) (hj : j < size) (_hsz : size < 4611686018427387904) :
    Calls Try.prog 46 #[.int .i64 i, .int .i64 j, .pointer (some ⟨Bs, 0, none⟩)] W fun e w' => e = .returned (.bool (decide (G i < G j))) ∧ ∃ q, w' = W.drewN q := by
  have ci := hc i hi
  have cj := hc j hj
  go_enter Try.func46, Try.ntmps46
  go_wp2
  go_quiet (fail)
  go_wp2
  go_ret
  exact ⟨rfl, nq, rfl⟩
theorem rows_rel2 (w : World) (B0 g n cap bx : Nat) (hg : g < w.heap.size) (hbx : w.cell? ⟨bx, 0, none⟩ = some (.slice (some ⟨g, 0, none⟩) n cap)) (hne : bx ≠ g) (hn : n < 4611686018427387904) (h2 : 2 ≤ n) :
    FnRel Try.prog (ltKey 2) w.heap.size n (RowsAt w B0 g n cap bx) 46 #[.pointer (some ⟨bx, 0, none⟩)] 81 #[.slice (some ⟨g, 0, none⟩) n cap, typeHandle Try.prog 45] where
  near h hb := h.near hg hb
  size h := ⟨h.2.size, by have := h.1.lt.2.2.1; simpa using this⟩
  eg := enters_of Try.func46 (by kernel_rfl) rfl
  less {W d} i j zi zj h hi hj ei ej := by
    subst ei ej
    have hl : d.toList.length = n := h.1.lt.2.2.1
    have hbxW : W.cell? ⟨bx, 0, none⟩ = some (.slice (some ⟨g, 0, none⟩) n cap) := h.2.cell hbx (fun e => by injection e with e; exact hne e)
    have hcell : ∀ t, t < n → W.cell? ⟨g, 0 + t * 3 + 2, none⟩ = some (.int .i64 (keyOf 2 d[t]!)) := fun t ht => by
      have hx : d.toList[t]? = some d[t]! := by
        have ht' : t < d.size := by simpa using (by omega : t < d.toList.length)
        rw [Array.getElem?_toList, Array.getElem?_eq_getElem ht', getElem!_pos d t ht']
      generalize d[t]! = v at hx ⊢
      obtain ⟨x, y, z⟩ := v
      rw [Nat.zero_add]
      exact (h.1.cellK len_enc3 hx (j := 2) (y := keyOf 2 (x, y, z)) rfl).1
    refine (less_rows2 g 0 cap bx n W (fun t => keyOf 2 d[t]!) hbxW hcell i j hi hj hn).mono ?_
    rintro e w' ⟨rfl, q, rfl⟩
    exact ⟨rfl, h.near hg ⟨rfl, rfl, rfl, Nat.le_refl _, fun _ _ => rfl⟩, Past.drewN _ _ _⟩
  swap {W d} i j zi zj h hi hj ei ej := by
    subst ei ej
    have hl : d.toList.length = n := h.1.lt.2.2.1
    have hds : d.size = n := by simpa using hl
    have hH : Go.Sort.HoldsK (encV enc3) 3 W g 0 d := own_holdsK len_enc3 (by omega) h.1
    have hs := swapSwapsK_of_literal (P := Try.prog) false 81 (fun args W => run_callFunc_extern Try.func81 (by kernel_rfl) (by kernel_rfl) (by kernel_rfl) (e := Extern.ReflectliteSwapper.swap false) (by kernel_rfl) args W)
      45 rwE (by kernel_rfl) (encV enc3) 3 (encV_len len_enc3) (by kernel_rfl) (fun _ => by kernel_rfl) (fun x v hv => encV_one x v hv) g 0 n cap W d hH hds i j hi hj
    refine ⟨_, hs, ?_⟩
    have e1 : ((W.setCells g (0 + i * 3) (encV enc3 d[j]!)).setCells g (0 + j * 3) (encV enc3 d[i]!)) = Go.Sort.grow (Go.Sort.putRowK (encV enc3) 3 (Go.Sort.ahead W 0) g 0 (Go.Sort.swp d i j)) #[] := by
      rw [Go.Sort.grow_empty]
      have e2 := Go.Sort.putRowK_swp (encV enc3) 3 (encV_len len_enc3) W g 0 d i j (by omega) (by omega)
      rw [Go.Sort.putRowK_self (encV enc3) 3 W g 0 d hH] at e2
      exact e2
    rw [e1]
    have hgr := grownBy_sortedK (enc := enc3) (K := 3) W 0 g 0 (Go.Sort.swp d i j) #[]
    refine ⟨⟨own_sortedK len_enc3 (by omega) h.1 0 (Go.Sort.swp d i j) #[] (by rw [Go.Sort.size_swp]; exact hds), h.2.trans hgr⟩, hgr.size, fun k hk1 hk2 => hgr.block k hk2 (fun e => by injection e with e; omega)⟩

/-- What the sort of rows has done. -/
def SortedRows (k : Nat) (B0 g n cap : Nat) (xs : List (Int × Int × Int)) (W : World) (e : Ending) (w' : World) : Prop :=
  ∃ l, e = .returned (.tuple #[]) ∧ OwnK 3 enc3 45 B0 w' (.slice (some ⟨g, 0, none⟩) n cap) l ∧ Stab (ltKey k) xs l ∧ W.grownBy w' (some g)
theorem stab_short {α : Type} [Inhabited α] {lt : α → α → Bool} {l : List α} (h : l.length ≤ 1) : Stab lt l l := by
  refine ⟨l.zipIdx, List.Perm.refl _, ?_, by simp⟩
  match l, h with
  | [], _ => exact List.Pairwise.nil
  | [a], _ => simp

set_option maxHeartbeats 2000000 in
theorem stable_rows0 (B0 g n cap bx : Nat) (xs : List (Int × Int × Int)) (W : World) (hO : OwnK 3 enc3 45 B0 W (.slice (some ⟨g, 0, none⟩) n cap) xs) (hn : n < 1152921504606846976)
    (hbox : W.cell? ⟨bx, 0, none⟩ = some (.slice (some ⟨g, 0, none⟩) n cap)) (hbl : bx < W.heap.size) (hne : bx ≠ g) :
    Calls Try.prog 43 #[.iface 31 (.slice (some ⟨g, 0, none⟩) n cap), .func (.func 44) #[] #[.pointer (some ⟨bx, 0, none⟩)]] W (SortedRows 0 B0 g n cap xs W) := by
  obtain ⟨_, hgl, hxl, _, _⟩ := hO.lt
  by_cases h2 : 2 ≤ n
  · have K := (rows_rel0 W B0 g n cap bx hgl hbox hne (by omega) h2).tag
    have hb1 : Below W.heap.size W (stableWorld Try.prog st8_ren 31 (some ⟨g, 0, none⟩) n cap W) := ((Below.refl _ _).alloc (Nat.le_refl _) _).alloc (by simp) _
    have hR0 : RowsAt W B0 g n cap bx W xs.toArray := ⟨hO, World.grownBy.refl _ _⟩
    have hR : RowsAt W B0 g n cap bx (stableWorld Try.prog st8_ren 31 (some ⟨g, 0, none⟩) n cap W) ((tagged xs).map Prod.fst) := by
      rw [tagged_map]
      exact hR0.near hgl hb1
    have hc := stable_fn (tt_trans (swo_ltKey 0)) K hn (n : Int) rfl (tagged xs) _ hR (fun a b h3 h4 => tagged_dec xs a b h3 (by omega))
    have hS := Any.sort_SliceStable_of_stable st8 31 45 rwT rwE (by kernel_rfl) (by kernel_rfl) (by kernel_rfl) (by kernel_rfl) 25 (fun _ => by kernel_rfl) (some ⟨g, 0, none⟩) n cap (by omega) 81 (by rw [rwK _ h2]; kernel_rfl)
      (.func 44) #[] #[.pointer (some ⟨bx, 0, none⟩)] W (fun w' => ∃ l, OwnK 3 enc3 45 B0 w' (.slice (some ⟨g, 0, none⟩) n cap) l ∧ Stab (ltKey 0) xs l ∧ W.grownBy w' (some g)) (by
        have hB : sliceBound Try.prog 45 rwE 25 (some ⟨g, 0, none⟩) n cap = #[.slice (some ⟨g, 0, none⟩) n cap, typeHandle Try.prog 45] := by
          unfold sliceBound
          rw [rwK _ h2]
          rfl
        rw [hB]
        refine Calls.mono hc ?_
        rintro e w' ⟨rfl, d', ⟨hp, hs⟩, hR', _⟩
        refine ⟨rfl, (d'.map Prod.fst).toList, hR'.1, ?_, hR'.2⟩
        rw [← hxl] at hp hs
        exact tagged_stab hp hs)
    change Calls Try.prog 43 _ _ _ at hS
    exact hS.mono fun e w' ⟨h3, l, h4, h5, h6⟩ => ⟨l, h3, h4, h5, h6⟩
  · have hS := fun f hf => Any.sort_SliceStable_tiny st8 31 45 rwT rwE (by kernel_rfl) (by kernel_rfl) (by kernel_rfl) (by kernel_rfl) 25 (fun _ => by kernel_rfl) (some ⟨g, 0, none⟩) n cap (by omega) f hf (.func 44) #[] #[.pointer (some ⟨bx, 0, none⟩)] W
    have hex : ∃ f, Try.prog.funcs.findIdx? (·.name == "internal/reflectlite" ++ ".Swapper$" ++ toString (Lib.swapperK n rwE 25)) = some f := by
      rcases (show n = 0 ∨ n = 1 by omega) with rfl | rfl
      · exact ⟨73, by kernel_rfl⟩
      · exact ⟨74, by kernel_rfl⟩
    obtain ⟨f, hf⟩ := hex
    have hS2 := hS f hf
    change Calls Try.prog 43 _ _ _ at hS2
    refine hS2.mono ?_
    rintro e w' ⟨rfl, os, rfl⟩
    exact ⟨xs, rfl, World.ownsRow.kept hO (grownBy_grow W os none) (.inr (by simp [Value.ownBlock])), stab_short (by omega), grownBy_grow _ _ _⟩

set_option maxHeartbeats 2000000 in
theorem stable_rows1 (B0 g n cap bx : Nat) (xs : List (Int × Int × Int)) (W : World) (hO : OwnK 3 enc3 45 B0 W (.slice (some ⟨g, 0, none⟩) n cap) xs) (hn : n < 1152921504606846976)
    (hbox : W.cell? ⟨bx, 0, none⟩ = some (.slice (some ⟨g, 0, none⟩) n cap)) (hbl : bx < W.heap.size) (hne : bx ≠ g) :
    Calls Try.prog 43 #[.iface 31 (.slice (some ⟨g, 0, none⟩) n cap), .func (.func 45) #[] #[.pointer (some ⟨bx, 0, none⟩)]] W (SortedRows 1 B0 g n cap xs W) := by
  obtain ⟨_, hgl, hxl, _, _⟩ := hO.lt
  by_cases h2 : 2 ≤ n
  · have K := (rows_rel1 W B0 g n cap bx hgl hbox hne (by omega) h2).tag
    have hb1 : Below W.heap.size W (stableWorld Try.prog st8_ren 31 (some ⟨g, 0, none⟩) n cap W) := ((Below.refl _ _).alloc (Nat.le_refl _) _).alloc (by simp) _
    have hR0 : RowsAt W B0 g n cap bx W xs.toArray := ⟨hO, World.grownBy.refl _ _⟩
    have hR : RowsAt W B0 g n cap bx (stableWorld Try.prog st8_ren 31 (some ⟨g, 0, none⟩) n cap W) ((tagged xs).map Prod.fst) := by
      rw [tagged_map]
      exact hR0.near hgl hb1
    have hc := stable_fn (tt_trans (swo_ltKey 1)) K hn (n : Int) rfl (tagged xs) _ hR (fun a b h3 h4 => tagged_dec xs a b h3 (by omega))
    have hS := Any.sort_SliceStable_of_stable st8 31 45 rwT rwE (by kernel_rfl) (by kernel_rfl) (by kernel_rfl) (by kernel_rfl) 25 (fun _ => by kernel_rfl) (some ⟨g, 0, none⟩) n cap (by omega) 81 (by rw [rwK _ h2]; kernel_rfl)
      (.func 45) #[] #[.pointer (some ⟨bx, 0, none⟩)] W (fun w' => ∃ l, OwnK 3 enc3 45 B0 w' (.slice (some ⟨g, 0, none⟩) n cap) l ∧ Stab (ltKey 1) xs l ∧ W.grownBy w' (some g)) (by
        have hB : sliceBound Try.prog 45 rwE 25 (some ⟨g, 0, none⟩) n cap = #[.slice (some ⟨g, 0, none⟩) n cap, typeHandle Try.prog 45] := by
          unfold sliceBound
          rw [rwK _ h2]
          rfl
        rw [hB]
        refine Calls.mono hc ?_
        rintro e w' ⟨rfl, d', ⟨hp, hs⟩, hR', _⟩
        refine ⟨rfl, (d'.map Prod.fst).toList, hR'.1, ?_, hR'.2⟩
        rw [← hxl] at hp hs
        exact tagged_stab hp hs)
    change Calls Try.prog 43 _ _ _ at hS
    exact hS.mono fun e w' ⟨h3, l, h4, h5, h6⟩ => ⟨l, h3, h4, h5, h6⟩
  · have hS := fun f hf => Any.sort_SliceStable_tiny st8 31 45 rwT rwE (by kernel_rfl) (by kernel_rfl) (by kernel_rfl) (by kernel_rfl) 25 (fun _ => by kernel_rfl) (some ⟨g, 0, none⟩) n cap (by omega) f hf (.func 45) #[] #[.pointer (some ⟨bx, 0, none⟩)] W
    have hex : ∃ f, Try.prog.funcs.findIdx? (·.name == "internal/reflectlite" ++ ".Swapper$" ++ toString (Lib.swapperK n rwE 25)) = some f := by
      rcases (show n = 0 ∨ n = 1 by omega) with rfl | rfl
      · exact ⟨73, by kernel_rfl⟩
      · exact ⟨74, by kernel_rfl⟩
    obtain ⟨f, hf⟩ := hex
    have hS2 := hS f hf
    change Calls Try.prog 43 _ _ _ at hS2
    refine hS2.mono ?_
    rintro e w' ⟨rfl, os, rfl⟩
    exact ⟨xs, rfl, World.ownsRow.kept hO (grownBy_grow W os none) (.inr (by simp [Value.ownBlock])), stab_short (by omega), grownBy_grow _ _ _⟩

set_option maxHeartbeats 2000000 in
theorem stable_rows2 (B0 g n cap bx : Nat) (xs : List (Int × Int × Int)) (W : World) (hO : OwnK 3 enc3 45 B0 W (.slice (some ⟨g, 0, none⟩) n cap) xs) (hn : n < 1152921504606846976)
    (hbox : W.cell? ⟨bx, 0, none⟩ = some (.slice (some ⟨g, 0, none⟩) n cap)) (hbl : bx < W.heap.size) (hne : bx ≠ g) :
    Calls Try.prog 43 #[.iface 31 (.slice (some ⟨g, 0, none⟩) n cap), .func (.func 46) #[] #[.pointer (some ⟨bx, 0, none⟩)]] W (SortedRows 2 B0 g n cap xs W) := by
  obtain ⟨_, hgl, hxl, _, _⟩ := hO.lt
  by_cases h2 : 2 ≤ n
  · have K := (rows_rel2 W B0 g n cap bx hgl hbox hne (by omega) h2).tag
    have hb1 : Below W.heap.size W (stableWorld Try.prog st8_ren 31 (some ⟨g, 0, none⟩) n cap W) := ((Below.refl _ _).alloc (Nat.le_refl _) _).alloc (by simp) _
    have hR0 : RowsAt W B0 g n cap bx W xs.toArray := ⟨hO, World.grownBy.refl _ _⟩
    have hR : RowsAt W B0 g n cap bx (stableWorld Try.prog st8_ren 31 (some ⟨g, 0, none⟩) n cap W) ((tagged xs).map Prod.fst) := by
      rw [tagged_map]
      exact hR0.near hgl hb1
    have hc := stable_fn (tt_trans (swo_ltKey 2)) K hn (n : Int) rfl (tagged xs) _ hR (fun a b h3 h4 => tagged_dec xs a b h3 (by omega))
    have hS := Any.sort_SliceStable_of_stable st8 31 45 rwT rwE (by kernel_rfl) (by kernel_rfl) (by kernel_rfl) (by kernel_rfl) 25 (fun _ => by kernel_rfl) (some ⟨g, 0, none⟩) n cap (by omega) 81 (by rw [rwK _ h2]; kernel_rfl)
      (.func 46) #[] #[.pointer (some ⟨bx, 0, none⟩)] W (fun w' => ∃ l, OwnK 3 enc3 45 B0 w' (.slice (some ⟨g, 0, none⟩) n cap) l ∧ Stab (ltKey 2) xs l ∧ W.grownBy w' (some g)) (by
        have hB : sliceBound Try.prog 45 rwE 25 (some ⟨g, 0, none⟩) n cap = #[.slice (some ⟨g, 0, none⟩) n cap, typeHandle Try.prog 45] := by
          unfold sliceBound
          rw [rwK _ h2]
          rfl
        rw [hB]
        refine Calls.mono hc ?_
        rintro e w' ⟨rfl, d', ⟨hp, hs⟩, hR', _⟩
        refine ⟨rfl, (d'.map Prod.fst).toList, hR'.1, ?_, hR'.2⟩
        rw [← hxl] at hp hs
        exact tagged_stab hp hs)
    change Calls Try.prog 43 _ _ _ at hS
    exact hS.mono fun e w' ⟨h3, l, h4, h5, h6⟩ => ⟨l, h3, h4, h5, h6⟩
  · have hS := fun f hf => Any.sort_SliceStable_tiny st8 31 45 rwT rwE (by kernel_rfl) (by kernel_rfl) (by kernel_rfl) (by kernel_rfl) 25 (fun _ => by kernel_rfl) (some ⟨g, 0, none⟩) n cap (by omega) f hf (.func 46) #[] #[.pointer (some ⟨bx, 0, none⟩)] W
    have hex : ∃ f, Try.prog.funcs.findIdx? (·.name == "internal/reflectlite" ++ ".Swapper$" ++ toString (Lib.swapperK n rwE 25)) = some f := by
      rcases (show n = 0 ∨ n = 1 by omega) with rfl | rfl
      · exact ⟨73, by kernel_rfl⟩
      · exact ⟨74, by kernel_rfl⟩
    obtain ⟨f, hf⟩ := hex
    have hS2 := hS f hf
    change Calls Try.prog 43 _ _ _ at hS2
    refine hS2.mono ?_
    rintro e w' ⟨rfl, os, rfl⟩
    exact ⟨xs, rfl, World.ownsRow.kept hO (grownBy_grow W os none) (.inr (by simp [Value.ownBlock])), stab_short (by omega), grownBy_grow _ _ _⟩

end Go.Proofs.Ytiioojnoggcnmaa

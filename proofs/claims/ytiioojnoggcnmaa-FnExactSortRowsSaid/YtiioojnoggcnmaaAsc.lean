/-
  What is proved here: the contract of Ascending of the thin package: it returns the ascending list; condition: at most 2^44 elements.
-/
import Derived.Test.YtiioojnoggcnmaaSortMem
import Derived.Test.YtiioojnoggcnmaaShelf
import Derived.Deep.QuietTactic
namespace Go.Proofs.Ytiioojnoggcnmaa
open Go.RowKit
set_option linter.unusedVariables false

noncomputable def siT : TypeInfo := (Try.prog.info? 22).get (by kernel_rfl)
noncomputable def siE : TypeInfo := (Try.prog.info? 3).get (by kernel_rfl)
theorem siK (n : Nat) (h2 : 2 ≤ n) : Lib.swapperK n siE 2 = 5 := by
  have a : siE.hasPointers = false := by kernel_rfl
  have b : siE.bytes = 8 := by kernel_rfl
  have c : (n == 0) = false := by simp; omega
  have d : (n == 1) = false := by simp; omega
  simp [Lib.swapperK, a, b, c, d]

set_option maxHeartbeats 2000000 in
theorem less_ints (blk off c Bs size : Nat) (W : World) (G : Nat → Int) (hs : W.cell? ⟨Bs, 0, none⟩ = some (.slice (some ⟨blk, off, none⟩) size c))
    (hc : ∀ t, t < size → W.cell? ⟨blk, off + t, none⟩ = some (.int .i64 (G t))) (i j : Nat) (hi : i < size) (hj : j < size) (_hsz : size < 4611686018427387904) :
    Calls Try.prog 39 #[.int .i64 i, .int .i64 j, .pointer (some ⟨Bs, 0, none⟩)] W fun e w' => e = .returned (.bool (decide (G i < G j))) ∧ ∃ q, w' = W.drewN q := by
  have ci := hc i hi
  have cj := hc j hj
  go_enter Try.func39, Try.ntmps39
  go_wp2
  go_quiet (fail)
  go_wp2
  go_ret
  exact ⟨rfl, nq, rfl⟩

theorem less_reads (W : World) (g n cap bx : Nat) (xs : List Int) (hx : xs.length = n) (hn : n < 4611686018427387904) (hH : Go.Sort.Holds (Value.int .i64) W g 0 xs.toArray) (hg : g < W.heap.size)
    (hbox : W.cell? ⟨bx, 0, none⟩ = some (.slice (some ⟨g, 0, none⟩) n cap)) (hbl : bx < W.heap.size) (hne : bx ≠ g) :
    LessReads Try.prog 39 #[.pointer (some ⟨bx, 0, none⟩)] (Value.int .i64) Go.Sort.ltInt g 0 n W := by
  intro m os dk hs i j hi hj
  have e : sortWorld (Value.int .i64) W g 0 m dk os = Go.Sort.putRow (Value.int .i64) (Go.Sort.grow (Go.Sort.ahead W m) os) g 0 dk := by
    unfold sortWorld; rw [Go.Sort.putRow_grow _ (Go.Sort.ahead W m) _ g 0 _ hg]
  have hHg : Go.Sort.Holds (Value.int .i64) (Go.Sort.grow (Go.Sort.ahead W m) os) g 0 xs.toArray := Go.Sort.holds_grow _ _ _ g 0 _ hg (Go.Sort.holds_ahead _ _ _ _ _ _ hH)
  refine less_ints g 0 cap bx n _ (fun t => dk[t]!) ?_ (fun t ht => ?_) i j hi hj hn
  · rw [e, Go.Sort.cell?_putRow_other _ _ g 0 dk _ (Or.inl hne), Go.Sort.cell?_grow _ _ _ hbl]
    exact hbox
  · rw [e]; exact Go.Sort.cell?_putRow _ _ g 0 xs.toArray dk hHg (by rw [hs]; simp [hx]) t (by omega)

def SortedNow (E : TypeId) (B g n cap : Nat) (xs : List Int) (W : World) (e : Ending) (w' : World) : Prop :=
  e = .returned (.tuple #[]) ∧ Own E B w' (.slice (some ⟨g, 0, none⟩) n cap) (asc xs) ∧ W.grownBy w' (some g)

theorem asc_short {l : List Int} (h : l.length ≤ 1) : asc l = l := by
  refine (asc_eq ?_ (List.Perm.refl _)).symm
  unfold Asc
  match l, h with
  | [], _ => exact List.Pairwise.nil
  | [a], _ => simp

set_option maxHeartbeats 2000000 in
theorem slice_any (B g n cap bx : Nat) (xs : List Int) (W : World) (hO : Own 3 B W (.slice (some ⟨g, 0, none⟩) n cap) xs) (hn : n < 4611686018427387904)
    (hbox : W.cell? ⟨bx, 0, none⟩ = some (.slice (some ⟨g, 0, none⟩) n cap)) (hbl : bx < W.heap.size) (hne : bx ≠ g) :
    Calls Try.prog 38 #[.iface 22 (.slice (some ⟨g, 0, none⟩) n cap), .func (.func 39) #[] #[.pointer (some ⟨bx, 0, none⟩)]] W (SortedNow 3 B g n cap xs W) := by
  obtain ⟨_, hgl, hxl, _, _⟩ := own_lt hO
  by_cases h2 : 2 ≤ n
  · have hsz : xs.toArray.size = n := by simp [hxl]
    have hS := Any.sort_Slice_sorted sl6 22 3 siT siE (by kernel_rfl) (by kernel_rfl) (by kernel_rfl) (by kernel_rfl) 2 (fun _ => by kernel_rfl) (by kernel_rfl) (fun _ => by kernel_rfl) (Value.int .i64) (fun _ => rfl) Go.Sort.ltInt Go.Sort.swo_ltInt 39 _
      (enters_of Try.func39 (by kernel_rfl) rfl) g 0 cap xs.toArray (by rw [hsz]; exact h2) (by rw [hsz]; exact hn) 77 (by rw [hsz, siK _ h2]; kernel_rfl) true
      (fun args W => run_callFunc_extern Try.func77 (by kernel_rfl) (by kernel_rfl) (by kernel_rfl) (e := Extern.ReflectliteSwapper.swap true) (by kernel_rfl) args W) W
      (by rw [hsz]; exact less_reads W g n cap bx xs hxl hn (own_holds hO) hgl hbox hbl hne) (own_holds hO) hgl
    change Calls Try.prog 38 _ _ _ at hS
    rw [hsz] at hS
    refine hS.mono ?_
    rintro e w' ⟨rfl, d', m, os, hP, hSo, rfl⟩
    rw [← hsz] at hP hSo
    obtain ⟨h3, h4⟩ := sorted_asc hP hSo
    refine ⟨rfl, ?_, grownBy_sorted _ _ _ _ _ _ _⟩
    rw [← h4]
    exact own_sorted hO m d' os (by omega)
  · have hS := fun f hf => Any.sort_Slice_tiny sl6 22 3 siT siE (by kernel_rfl) (by kernel_rfl) (by kernel_rfl) (by kernel_rfl) 2 (fun _ => by kernel_rfl) (some ⟨g, 0, none⟩) n cap (by omega) f hf (.func 39) #[] #[.pointer (some ⟨bx, 0, none⟩)] W
    have hex : ∃ f, Try.prog.funcs.findIdx? (·.name == "internal/reflectlite" ++ ".Swapper$" ++ toString (Lib.swapperK n siE 2)) = some f := by
      rcases (show n = 0 ∨ n = 1 by omega) with rfl | rfl
      · exact ⟨73, by kernel_rfl⟩
      · exact ⟨74, by kernel_rfl⟩
    obtain ⟨f, hf⟩ := hex
    have hS2 := hS f hf
    change Calls Try.prog 38 _ _ _ at hS2
    refine hS2.mono ?_
    rintro e w' ⟨rfl, os, rfl⟩
    refine ⟨rfl, ?_, grownBy_grow _ _ _⟩
    rw [asc_short (by omega)]
    exact World.ownsRow.kept hO (grownBy_grow W os none) (.inr (by simp [Value.ownBlock]))

/-- What a call has made: a new slice, not nil, of n elements that reads as xs; nothing old has changed. -/
def MadeS (E : TypeId) (n : Nat) (xs : List Int) (w : World) (e : Ending) (w' : World) : Prop :=
  ∃ g cap, e = .returned (.slice (some ⟨g, 0, none⟩) n cap) ∧ Own E w.heap.size w' (.slice (some ⟨g, 0, none⟩) n cap) xs ∧ Below w.heap.size w w'

set_option maxRecDepth 100000 in
set_option maxHeartbeats 1000000 in
theorem ascending_some (v : Value) (xs : List Int) (w : World) (h : Ro w v xs) (hn : xs.length ≤ 17592186044416) :
    Calls Try.prog 14 #[v] w (MadeS 3 xs.length (asc xs) w) := by
  have h0 := h
  obtain ⟨A, c, b, off, rfl, hnc, hcm, ha, hcell⟩ := h
  obtain ⟨n, hxn⟩ : ∃ n, n = xs.length := ⟨_, rfl⟩
  rw [← hxn] at h0 hn hnc ha ⊢
  have HR := Lib.hid h0.src.2
  have HX := Lib.hid hxn
  clear h0 hcell ha hxn
  go_enter Try.func14, Try.ntmps14
  go_wp2_with (at_builtin; refine wpList_app _ rfl (.tmp 4) (.tmp 5) rfl ints_ok w.heap.size w.heap.size 0 0 [] (by rfl) (ownE _ (Nat.le_refl _)) _ n c (xs.map (Value.int .i64)) (by rfl) (HR.out.alloc _) (by unfold maxLen; omega) (by omega) (by simp) n (by omega) _ rfl ?_; intro g2 cap2 w2 hown2 hgrow2 hat2)
  obtain ⟨hg2B, hg2l⟩ := hown2.lt g2 rfl
  have hb2 : Below w.heap.size w w2 := below_app hgrow2 (Nat.le_refl _) ((Below.refl _ _).alloc (Nat.le_refl _) _)
  have hO3 : Own 3 w.heap.size (w2.alloc (.cells #[.slice (some ⟨g2, 0, none⟩) n cap2] 22)) (.slice (some ⟨g2, 0, none⟩) n cap2) xs := by
    unfold Own
    rw [← HX.out]
    exact hown2.alloc _
  have hS := slice_any w.heap.size g2 n cap2 w2.heap.size xs _ hO3 (by omega) (by simp [go_sem]) (by simp) (by omega)
  have HS := Lib.hid hS
  clear hS hO3
  refine HS.out.mono ?_
  rintro e w3 ⟨rfl, ho3, hg3⟩
  have hb3 : Below w.heap.size w w3 := below_app hg3 hg2B (hb2.alloc hb2.size _)
  have hc3 : w3.cell? ⟨w2.heap.size, 0, none⟩ = some (.slice (some ⟨g2, 0, none⟩) n cap2) := hg3.cell (by simp [go_sem]) (fun e => by injection e with e; simp at e; omega)
  have HO3 := Lib.hid ho3
  clear ho3 hg3 hown2 hgrow2 hat2 HS
  go_wp2_with fail
  go_ret
  exact ⟨g2, cap2, rfl, HO3.out, hb3⟩
theorem ascending_any (v : Value) (xs : List Int) (w : World) (h : Ro w v xs) (hn : xs.length ≤ 17592186044416) :
    Calls Try.prog 14 #[v] w (Made 3 (asc xs) w) := (ascending_some v xs w h hn).mono fun e w' ⟨g, cap, h1, h2, h3⟩ => ⟨_, h1, h2, h3⟩

end Go.Proofs.Ytiioojnoggcnmaa

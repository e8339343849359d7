/-
  What is proved here: the contract of sort.Slice as impl.Merge calls it (spans by their beginnings): a sorted permutation; condition: fewer than 2^62 spans.
-/
import Derived.Test.YtpkdjdofbedncaaSortMemK
import Derived.Test.YtpkdjdofbedncaaShelf
import Derived.Deep.QuietTactic
namespace Go.Proofs.Ytpkdjdofbedncaa
open Go.RowKit
set_option linter.unusedVariables false

theorem span_info : (Try.prog.info? 37).map (fun i => (i.zero, i.size, i.bytes)) = some (some (.agg #[.int .i64 0, .int .i64 0]), 2, 16) := by kernel_rfl
theorem spans_ok : ElemOk Try.prog 29 37 2 16 := by
  obtain ⟨i0, hi, hz0, hz1, hz2⟩ := info_parts span_info
  exact ⟨Try.underlying29, by omega, i0, _, hi, hz0, hz1, hz2, rfl⟩
noncomputable def spT : TypeInfo := (Try.prog.info? 29).get (by kernel_rfl)
noncomputable def spE : TypeInfo := (Try.prog.info? 37).get (by kernel_rfl)
theorem spK (n : Nat) (h2 : 2 ≤ n) : Lib.swapperK n spE 25 = 9 := by
  have a : spE.hasPointers = false := by kernel_rfl
  have b : spE.bytes = 16 := by kernel_rfl
  have c : (n == 0) = false := by simp; omega
  have d : (n == 1) = false := by simp; omega
  simp [Lib.swapperK, a, b, c, d]

def ltFrom (a b : Int × Int) : Bool := decide (a.1 < b.1)
theorem swo_ltFrom : Go.Sort.SWO ltFrom := by
  constructor <;> intros <;> simp_all [ltFrom] <;> omega

set_option maxHeartbeats 2000000 in
theorem less_spans (blk off c Bs size : Nat) (W : World) (G : Nat → Int) (hs : W.cell? ⟨Bs, 0, none⟩ = some (.slice (some ⟨blk, off, none⟩) size c))
    (hc : ∀ t, t < size → W.cell? ⟨blk, off + t * 2, none⟩ = some (.int .i64 (G t))) (i j : Nat) (hi : i < size) (hj : j < size) (_hsz : size < 4611686018427387904) :
    Calls Try.prog 45 #[.int .i64 i, .int .i64 j, .pointer (some ⟨Bs, 0, none⟩)] W fun e w' => e = .returned (.bool (decide (G i < G j))) ∧ ∃ q, w' = W.drewN q := by
  have ci := hc i hi
  have cj := hc j hj
  go_enter Try.func45, Try.ntmps45
  go_wp2
  go_quiet (fail)
  go_wp2
  go_ret
  exact ⟨rfl, nq, rfl⟩

def SortedSpans (E : TypeId) (B g n cap : Nat) (xs : List (Int × Int)) (W : World) (e : Ending) (w' : World) : Prop :=
  ∃ l : List (Int × Int), e = .returned (.tuple #[]) ∧ OwnK 2 enc2 E B w' (.slice (some ⟨g, 0, none⟩) n cap) l ∧ l.Perm xs ∧ l.Pairwise (fun a b => a.1 ≤ b.1) ∧ W.grownBy w' (some g)

set_option maxHeartbeats 2000000 in
theorem slice_spans (B g n cap bx : Nat) (xs : List (Int × Int)) (W : World) (hO : OwnK 2 enc2 37 B W (.slice (some ⟨g, 0, none⟩) n cap) xs) (hn : n < 4611686018427387904)
    (hbox : W.cell? ⟨bx, 0, none⟩ = some (.slice (some ⟨g, 0, none⟩) n cap)) (hbl : bx < W.heap.size) (hne : bx ≠ g) :
    Calls Try.prog 44 #[.iface 29 (.slice (some ⟨g, 0, none⟩) n cap), .func (.func 45) #[] #[.pointer (some ⟨bx, 0, none⟩)]] W (SortedSpans 37 B g n cap xs W) := by
  obtain ⟨_, hgl, hxl, _, _⟩ := hO.lt
  by_cases h2 : 2 ≤ n
  · have hsz : xs.toArray.size = n := by simp [hxl]
    have hH : Go.Sort.HoldsK (encV enc2) 2 W g 0 xs.toArray := own_holdsK len_enc2 (by omega) hO
    have hless : LessReadsK Try.prog 45 #[.pointer (some ⟨bx, 0, none⟩)] (encV enc2) 2 ltFrom g 0 n W := by
      intro m os dk hs i j hi hj
      have e : sortWorldK (encV enc2) 2 W g 0 m dk os = Go.Sort.putRowK (encV enc2) 2 (Go.Sort.grow (Go.Sort.ahead W m) os) g 0 dk := by
        unfold sortWorldK; rw [Go.Sort.putRowK_grow _ _ (Go.Sort.ahead W m) _ g 0 _ hgl]
      have hHg : Go.Sort.HoldsK (encV enc2) 2 (Go.Sort.grow (Go.Sort.ahead W m) os) g 0 xs.toArray := Go.Sort.holdsK_grow _ _ _ _ g 0 _ hgl (Go.Sort.holdsK_ahead _ _ _ _ _ _ _ hH)
      refine less_spans g 0 cap bx n _ (fun t => dk[t]!.1) ?_ (fun t ht => ?_) i j hi hj hn
      · rw [e, Go.Sort.cell?_putRowK_other _ _ _ g 0 dk _ (by exact hne), Go.Sort.cell?_grow _ _ _ (by exact hbl)]; exact hbox
      · rw [e]; exact ((Go.Sort.holdsK_putRowK _ _ _ g 0 xs.toArray dk hHg (by rw [hs, hsz])).cell (i := t) (c := 0) (by omega) (by omega)).1
    have hS := Any.sort_Slice_cells_sorted sl6 29 37 spT spE (by kernel_rfl) (by kernel_rfl) (by kernel_rfl) (by kernel_rfl) 25 (fun _ => by kernel_rfl) (encV enc2) 2 (encV_len len_enc2) (by kernel_rfl) (fun _ => by kernel_rfl)
      (fun x v hv => encV_one x v hv) ltFrom swo_ltFrom 45 _
      (enters_of Try.func45 (by kernel_rfl) rfl) g 0 cap xs.toArray (by rw [hsz]; exact h2) (by rw [hsz]; exact hn) 72 (by rw [hsz, spK _ h2]; kernel_rfl) false
      (fun args W => run_callFunc_extern Try.func72 (by kernel_rfl) (by kernel_rfl) (by kernel_rfl) (e := Extern.ReflectliteSwapper.swap false) (by kernel_rfl) args W) W
      (by rw [hsz]; exact hless) hH hgl
    change Calls Try.prog 44 _ _ _ at hS
    rw [hsz] at hS
    refine hS.mono ?_
    rintro e w' ⟨rfl, d', m, os, hP, hSo, rfl⟩
    rw [← hsz] at hP hSo
    obtain ⟨h3, h4, h5⟩ := sorted_list hP hSo
    refine ⟨d'.toList, rfl, own_sortedK len_enc2 (by omega) hO m d' os (by omega), h4, h5.imp (fun h => ?_), grownBy_sortedK _ _ _ _ _ _⟩
    simp [ltFrom] at h
    omega
  · have hS := fun f hf => Any.sort_Slice_tiny sl6 29 37 spT spE (by kernel_rfl) (by kernel_rfl) (by kernel_rfl) (by kernel_rfl) 25 (fun _ => by kernel_rfl) (some ⟨g, 0, none⟩) n cap (by omega) f hf (.func 45) #[] #[.pointer (some ⟨bx, 0, none⟩)] W
    have hex : ∃ f, Try.prog.funcs.findIdx? (·.name == "internal/reflectlite" ++ ".Swapper$" ++ toString (Lib.swapperK n spE 25)) = some f := by
      rcases (show n = 0 ∨ n = 1 by omega) with rfl | rfl
      · exact ⟨64, by kernel_rfl⟩
      · exact ⟨65, by kernel_rfl⟩
    obtain ⟨f, hf⟩ := hex
    have hS2 := hS f hf
    change Calls Try.prog 44 _ _ _ at hS2
    refine hS2.mono ?_
    rintro e w' ⟨rfl, os, rfl⟩
    refine ⟨xs, rfl, World.ownsRow.kept hO (grownBy_grow W os none) (.inr (by simp [Value.ownBlock])), List.Perm.refl _, ?_, grownBy_grow _ _ _⟩
    match xs, hxl with
    | [], _ => exact List.Pairwise.nil
    | [a], _ => simp
    | a :: b :: r, h => simp at h; omega

end Go.Proofs.Ytpkdjdofbedncaa

/-
  What is proved here: sort.Sort and sort.Stable through an interface value, over a relation that its methods keep, with a bound on the number of exchanges; condition: fewer than 2^60 elements.
-/
import Derived.Test.YtiioojnoggcnmaaIfPdq
import Derived.Test.YtiioojnoggcnmaaIfStable
import Derived.Shelf.GgSortFunc.Bridge
namespace Go.Proofs.Ytiioojnoggcnmaa
open Go.RowKit Go.Sort
set_option linter.unusedVariables false
set_option linter.unusedSectionVars false

section
variable {α : Type} [Inhabited α] {lt : α → α → Bool} {T : α → α → Prop} {B n : Nat} {R : Nat → World → Array α → Prop} {Ty : TypeId} {rv : Value} {gl gs gn : Nat} {rl rs rn : Value}

/-- The method Len, beside IfRel. -/
structure LenRel (P : Program) {α : Type} (B n : Nat) (R : Nat → World → Array α → Prop) (Ty : TypeId) (rv : Value) (gn : Nat) (rn : Value) : Prop where
  eN : ∀ args w, (callFunc gn args).run P w = .ok (.enter gn args) w
  mN : ∀ {c : Nat} {W : World} {d : Array α}, R c W d → Sem.run P (method 233 Ty rv "Len") W = .ok (gn, rn) W
  len : ∀ {c : Nat} {W : World} {d : Array α}, R c W d → Calls P gn #[rn] W fun e w' => e = .returned (.int .i64 (n : Int)) ∧ R c w' d ∧ Past B W w'

theorem bitsLen_if (n : Nat) (hn : n < 1152921504606846976) (w : World) : Calls Try.prog 52 #[.int .u64 (n : Int)] w fun e w' => e = .returned (.int .i64 (Lib.bitLen n)) ∧ w' = w :=
  Any.bits_Len (LaysGg.n13.bits (P := Try.prog) (ρ := sl6_ren) { sl6 with }) (n : Int) w (by omega) (by omega)

set_option maxHeartbeats 4000000 in
set_option maxRecDepth 100000 in
theorem sort_if (K : IfRel Try.prog lt B n R Ty rv gl gs rl rs) (N : LenRel Try.prog B n R Ty rv gn rn) (hO : SWO lt) (hn : n < 1152921504606846976) (c0 : Nat) (d : Array α) (W : World) (hR : R c0 W d) :
    Calls Try.prog 35 #[.iface Ty rv] W (TurnedI B R (c0 + 20 * (n + 1) * n) (fun d' => PermIn 0 n d d' ∧ SortedIn lt 0 n d') W) := by
  obtain ⟨hB, hds⟩ := K.size hR
  have eN := N.eN
  have mN := N.mN hR
  have HLN := Lib.hid (N.len hR)
  have HK := Lib.hid K
  have HO := Lib.hid hO
  clear K N hR hO
  go_enter Try.func35, Try.ntmps35
  by_cases h1 : n ≤ 1
  · have h1z : (n : Int) ≤ 1 := by omega
    go_wp2_with (go_at_fn gn; refine HLN.out.mono ?_; rintro e w1 ⟨rfl, hR1, hP1⟩; have HR1 := Lib.hid hR1; have HP1 := Lib.hid hP1; clear hR1 hP1 HLN)
    (try simp only [Exit.inBlock, Exit.then]); refine bodyPost_ret (results_none rfl _ _ _) rfl ?_
    exact ⟨rfl, d, ⟨permIn_refl _ _ _, fun i j h2 h3 h4 => by omega⟩, HK.out.more HR1.out (Nat.le_add_right _ _), HP1.out⟩
  · have h1z : ¬ (n : Int) ≤ 1 := by omega
    have wr : IntKind.u64.wrap (n : Int) = n := by simp [IntKind.wrap, IntKind.bits, IntKind.signed]; omega
    have hlim : Lib.bitLen n < 4611686018427387904 := Nat.lt_of_le_of_lt (Lib.bitLen_le n 62 (by omega) (by omega)) (by omega)
    go_wp2_with (go_at_fn gn; refine HLN.out.mono ?_; rintro e w1 ⟨rfl, hR1, hP1⟩; have HR1 := Lib.hid hR1; have HP1 := Lib.hid hP1; clear hR1 hP1 HLN)
    have HC := Lib.hid (pdqsort_if HK.out HO.out hn (n + 1) c0 0 n (Lib.bitLen n) 0 (n : Int) (Lib.bitLen n : Int) d w1 (by omega) rfl rfl rfl HR1.out (Nat.zero_le _) (Nat.le_refl _) hlim (Or.inl rfl))
    refine (bitsLen_if n hn _).mono ?_
    rintro e w2 ⟨rfl, rfl⟩
    go_wp2_with fail
    refine HC.out.mono ?_
    rintro e w3 ⟨rfl, d3, hd3, hR3, hP3⟩
    have HD3 := Lib.hid hd3
    have HR3 := Lib.hid hR3
    have HP3 := Lib.hid (HP1.out.trans hP3)
    clear hd3 hR3 hP3 HC
    go_wp2_with fail
    go_end0
    have h := pdq_sorts lt HO.out d 0 n (Lib.bitLen n) true true (Nat.zero_le _) (by omega) (Or.inl rfl)
    exact ⟨rfl, d3, by rw [HD3.out]; exact h, HR3.out, HP3.out⟩

set_option maxHeartbeats 4000000 in
set_option maxRecDepth 100000 in
theorem stableS_if (htr : ∀ x y z, T x y → T y z → T x z) (K : IfRel Try.prog lt B n R Ty rv gl gs rl rs) (N : LenRel Try.prog B n R Ty rv gn rn) (hn : n < 1152921504606846976) (c0 : Nat) (d : Array α) (W : World) (hR : R c0 W d) (hdec : ∀ i j, i < j → j < n → Dec lt T d[i]! d[j]!) :
    Calls Try.prog 36 #[.iface Ty rv] W (TurnedI B R (c0 + 2 * (20 + 2 * n) * n) (fun d' => PermIn 0 n d d' ∧ SortT T 0 n d') W) := by
  have eN := N.eN
  have mN := N.mN hR
  have HLN := Lib.hid (N.len hR)
  have HC := Lib.hid (fun w1 (h : R c0 w1 d) => stable_if htr K c0 hn (n : Int) rfl d w1 h hdec)
  clear K N hR hdec
  go_enter Try.func36, Try.ntmps36
  go_wp2_with (go_at_fn gn; refine HLN.out.mono ?_; rintro e w1 ⟨rfl, hR1, hP1⟩; have HR1 := Lib.hid hR1; have HP1 := Lib.hid hP1; clear hR1 hP1 HLN)
  refine (HC.out w1 HR1.out).mono ?_
  rintro e w3 ⟨rfl, d3, hd3, hR3, hP3⟩
  have HD3 := Lib.hid hd3
  have HR3 := Lib.hid hR3
  have HP3 := Lib.hid (HP1.out.trans hP3)
  clear hd3 hR3 hP3 HC
  go_wp2_with fail
  go_end0
  exact ⟨rfl, d3, HD3.out, HR3.out, HP3.out⟩

end

end Go.Proofs.Ytiioojnoggcnmaa

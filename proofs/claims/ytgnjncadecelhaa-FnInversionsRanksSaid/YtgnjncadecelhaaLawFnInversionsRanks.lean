/-
  What is proved here: the walk of the law FnInversionsRanks; no other condition.
-/
import Derived.Test.YtgnjncadecelhaaRanks
import Derived.Test.YtgnjncadecelhaaOpp
import Derived.Test.YtgnjncadecelhaaMir
import Derived.Test.YtgnjncadecelhaaInv
import Derived.Test.YtgnjncadecelhaaInvPlain
import Derived.Test.YtgnjncadecelhaaSame
namespace Go.Proofs.Ytgnjncadecelhaa
open Go.RowKit
set_option linter.unusedVariables false

set_option maxRecDepth 100000 in
set_option maxHeartbeats 2000000 in
theorem walk_FnInversionsRanks (v0 : Value) (x0 : List Int) (w : World) (h0 : Ro w v0 x0) (f0 : ∀ x ∈ x0, (Lit.int .i64 x).wf = true) (n0 : x0.length * 8 ≤ 140737488351232) :
    Calls Try.prog 13 #[v0] w fun e w' => e = .returned (.bool true) ∧ Below w.heap.size w w' := by
  have HWF := Lib.hid f0
  have R_v0 := Lib.hid h0
  clear h0 f0
  obtain ⟨c, hc⟩ : ∃ c : Int, c = IntKind.i64.wrap (inv x0 : Nat) := ⟨_, rfl⟩
  have HCW := Lib.hid hc
  clear hc
  go_enter Try.func13, Try.ntmps13
  go_wp2_with fail
  refine (inversionsW_any _ x0 _ R_v0.out (by omega)).mono ?_
  rw [← HCW.out]
  rintro e W1 ⟨rfl, b1⟩
  replace R_v0 := Lib.hid (R_v0.out.below b1)
  have bt1 : Below w.heap.size w W1 := b1
  clear b1
  go_wp2_with fail
  refine (ranks_any _ x0 _ R_v0.out (by omega)).mono ?_
  rintro e W2 ⟨u1, rfl, o2, b2⟩
  replace R_v0 := Lib.hid (R_v0.out.below b2)
  have bt2 : Below w.heap.size w W2 := bt1.trans (b2.mono bt1.size)
  clear bt1
  clear b2
  have R_u1 := Lib.hid o2.ro
  clear o2
  go_wp2_with fail
  refine (inversionsW_any _ (ranks x0) _ R_u1.out (by rw [ranks_len]; omega)).mono ?_
  rw [inv_ranks, ← HCW.out]
  rintro e W3 ⟨rfl, b3⟩
  replace R_v0 := Lib.hid (R_v0.out.below b3)
  replace R_u1 := Lib.hid (R_u1.out.below b3)
  have bt3 : Below w.heap.size w W3 := bt2.trans (b3.mono bt2.size)
  clear bt2
  clear b3
  clear R_u1
  go_wp2_with fail
  refine (mirrored_any _ x0 _ R_v0.out (by omega)).mono ?_
  rintro e W4 ⟨u2, rfl, o4, b4⟩
  replace R_v0 := Lib.hid (R_v0.out.below b4)
  have bt4 : Below w.heap.size w W4 := bt3.trans (b4.mono bt3.size)
  clear bt3
  clear b4
  have R_u2 := Lib.hid o4.ro
  clear o4
  go_wp2_with fail
  refine (opposite_any _ x0.reverse _ R_u2.out (fun x hx => HWF.out x (List.mem_reverse.1 hx)) (by rw [List.length_reverse]; omega)).mono ?_
  rintro e W5 ⟨u3, rfl, o5, b5⟩
  replace R_v0 := Lib.hid (R_v0.out.below b5)
  replace R_u2 := Lib.hid (R_u2.out.below b5)
  have bt5 : Below w.heap.size w W5 := bt4.trans (b5.mono bt4.size)
  clear bt4
  clear b5
  have R_u3 := Lib.hid o5.ro
  clear o5
  go_wp2_with fail
  refine (inversionsW_any _ (opp x0.reverse) _ R_u3.out (by rw [opp_len, List.length_reverse]; omega)).mono ?_
  rw [inv_opp_rev, ← HCW.out]
  rintro e W6 ⟨rfl, b6⟩
  replace R_v0 := Lib.hid (R_v0.out.below b6)
  replace R_u2 := Lib.hid (R_u2.out.below b6)
  replace R_u3 := Lib.hid (R_u3.out.below b6)
  have bt6 : Below w.heap.size w W6 := bt5.trans (b6.mono bt5.size)
  clear bt5
  clear b6
  go_wp2_with fail
  refine (works_any _).mono ?_
  rintro e W7 ⟨rfl, b7⟩
  replace R_v0 := Lib.hid (R_v0.out.below b7)
  replace R_u2 := Lib.hid (R_u2.out.below b7)
  replace R_u3 := Lib.hid (R_u3.out.below b7)
  have bt7 : Below w.heap.size w W7 := bt6.trans (b7.mono bt6.size)
  clear bt6
  clear b7
  go_wp2_with fail
  go_ret
  exact ⟨rfl, bt7⟩

end Go.Proofs.Ytgnjncadecelhaa

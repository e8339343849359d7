/-
  What is proved here: the walks of the laws on Root: each returns true, for every input, and changes nothing that was there.
-/
import Derived.Test.YtbgimajgbgfomaaRoot
namespace Go.Proofs.Ytbgimajgbgfomaa
open Go.RowKit
set_option linter.unusedVariables false

set_option maxHeartbeats 1000000 in
theorem walk_FnExactRoot (a0 a1 : Int) (w : World) (w0 : (Lit.int .i64 a0).wf = true) (w1 : (Lit.int .i64 a1).wf = true) :
    Calls Try.prog 6 #[.int .i64 a0, .int .i64 a1] w fun e w' => e = .returned (.bool true) ∧ Below w.heap.size w w' := by
  obtain ⟨m, hm⟩ := Int.eq_ofNat_of_zero_le (show 0 ≤ a0 % 1099511627776 by omega)
  obtain ⟨e, he⟩ := Int.eq_ofNat_of_zero_le (show 0 ≤ a1 % 4 + 2 by omega)
  have HM := Lib.hid hm
  have HE := Lib.hid he
  clear hm he w0 w1
  go_enter Try.func6, Try.ntmps6
  go_wp2_with fail
  refine (specRoot_any _ _ m e _ HM.out HE.out).mono ?_
  rintro o w' ⟨R, rfl, hR, rfl⟩
  have HR := Lib.hid hR
  clear hR
  go_wp2_with fail
  refine (root_any _ _ m e _ HM.out HE.out).mono ?_
  rintro o w' ⟨S, rfl, hS, hb⟩
  obtain rfl := root_unique HR.out hS
  clear hS
  go_wp2_with fail
  go_ret
  exact ⟨rfl, hb⟩

end Go.Proofs.Ytbgimajgbgfomaa

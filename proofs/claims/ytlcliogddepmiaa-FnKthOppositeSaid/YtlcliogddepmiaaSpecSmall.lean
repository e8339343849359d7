/-
  What is proved here: the contract of the reference's Small; no condition.
-/
import Derived.Test.YtlcliogddepmiaaKth
namespace Go.Proofs.Ytlcliogddepmiaa
open Go.RowKit
set_option linter.unusedVariables false

set_option maxHeartbeats 400000 in
theorem specSmall_any (v : Int) (w : World) : Calls Try.prog 29 #[.int .i64 v] w fun e w' => e = .returned (.int .i64 (sml v)) ∧ w = w' := by
  have hb := sml_bounds v
  have h1 := hb.1; have h2 := hb.2
  unfold sml at *
  go_enter Try.func29, Try.ntmps29
  go_wp2
  go_ret
  exact ⟨rfl, rfl⟩

end Go.Proofs.Ytlcliogddepmiaa

/-
  No cell of these rows narrows 'for every input' (looked for: loops, veiled, ifaces, maps, wideKeys, modest, calm, conditions, laid).
  DERIVED. THE GIVEN ROWS OF THIS SEAT. 10 by the template 'for every input the law returns true; each argument reads behind the call as it read before'; 0 by the template 'total and deterministic' (their statements: YtbgimajgbgfomaaTotals.lean).
  GIVEN WITH THE SEED: the statements are not yours to turn. If you find one false, say at which input.
  Laid BY PROGRAM, IN A SANDBOX (cutbox-rows.mjs): the forced cells as the released guide's own fill.sh prints them over the translation 50397d6b17baebd6… (all of the seat's roots in one cut). By AI agents, Wed Nov 11 2026. No macro, syntax, notation, axiom, sorry.
-/
import Derived.Test.YtbgimajgbgfomaaChecked
import GoSem.Claim
import GoSem.ClaimJoined
import GoSem.ClaimMapViews
import Derived.JoinedTies
import Derived.KernelRfl
namespace Go.Proofs.Ytbgimajgbgfomaa
/- THE CELL 'sum', in the pinned program and in every row, IS THE sha256 OF THE DUMP (.gsa) THAT YtbgimajgbgfomaaProg.lean LOADS. Nothing in Lean hashes anything: it is a label: what it is worth is what the hold of that sum in a sandbox is worth. -/
noncomputable def Try.pinned : Pinned := { name := "ytbgimajgbgfomaa", sum := "50397d6b17baebd6dc6c9baf6264ef028117159f604b73e994aaca3c3985fefc", checked := Try.checked }
namespace Rows
def none {H : Type} : Left H := { results := [], args := [] }

/-- 'laws.FnExactInversions': WHATEVER THE INPUT: true; the input reads as it did. -/
def fnExactInversionsSpec : ChangeSpec := { name := "fnExactInversions", fn := fun _ => fun
  | [d] => { results := [.lit (.bool true)], args := [d] }
  | _ => none }
def fnExactInversionsRow : OpenClaim := { program := "ytbgimajgbgfomaa", sum := "50397d6b17baebd6dc6c9baf6264ef028117159f604b73e994aaca3c3985fefc", func := "loop.example/lib-g01439/laws.FnExactInversions", spec := "fnExactInversions", unfollowed := true, recurses := true, apart := false }
def FnExactInversionsSaid : Prop := fnExactInversionsRow.holds Try.pinned (OpenSpec.ofChange fnExactInversionsSpec)

/-- ITS FALSE NEIGHBOUR: 'it returns false'. Refute it at one input. -/
def fnExactInversionsWrong : ChangeSpec := { name := "fnExactInversions", fn := fun _ => fun
  | [d] => { results := [.lit (.bool false)], args := [d] }
  | _ => none }
def FnExactInversionsWrongFalsely : Prop := fnExactInversionsRow.holds Try.pinned (OpenSpec.ofChange fnExactInversionsWrong)

/-- 'laws.FnExactPiles': WHATEVER THE INPUT: true; the input reads as it did. -/
def fnExactPilesSpec : ChangeSpec := { name := "fnExactPiles", fn := fun _ => fun
  | [d] => { results := [.lit (.bool true)], args := [d] }
  | _ => none }
def fnExactPilesRow : OpenClaim := { program := "ytbgimajgbgfomaa", sum := "50397d6b17baebd6dc6c9baf6264ef028117159f604b73e994aaca3c3985fefc", func := "loop.example/lib-g01439/laws.FnExactPiles", spec := "fnExactPiles", unfollowed := true, recurses := true, apart := false }
def FnExactPilesSaid : Prop := fnExactPilesRow.holds Try.pinned (OpenSpec.ofChange fnExactPilesSpec)

/-- ITS FALSE NEIGHBOUR: 'it returns false'. Refute it at one input. -/
def fnExactPilesWrong : ChangeSpec := { name := "fnExactPiles", fn := fun _ => fun
  | [d] => { results := [.lit (.bool false)], args := [d] }
  | _ => none }
def FnExactPilesWrongFalsely : Prop := fnExactPilesRow.holds Try.pinned (OpenSpec.ofChange fnExactPilesWrong)

/-- 'laws.FnExactWeakPiles': WHATEVER THE INPUT: true; the input reads as it did. -/
def fnExactWeakPilesSpec : ChangeSpec := { name := "fnExactWeakPiles", fn := fun _ => fun
  | [d] => { results := [.lit (.bool true)], args := [d] }
  | _ => none }
def fnExactWeakPilesRow : OpenClaim := { program := "ytbgimajgbgfomaa", sum := "50397d6b17baebd6dc6c9baf6264ef028117159f604b73e994aaca3c3985fefc", func := "loop.example/lib-g01439/laws.FnExactWeakPiles", spec := "fnExactWeakPiles", unfollowed := true, recurses := true, apart := false }
def FnExactWeakPilesSaid : Prop := fnExactWeakPilesRow.holds Try.pinned (OpenSpec.ofChange fnExactWeakPilesSpec)

/-- ITS FALSE NEIGHBOUR: 'it returns false'. Refute it at one input. -/
def fnExactWeakPilesWrong : ChangeSpec := { name := "fnExactWeakPiles", fn := fun _ => fun
  | [d] => { results := [.lit (.bool false)], args := [d] }
  | _ => none }
def FnExactWeakPilesWrongFalsely : Prop := fnExactWeakPilesRow.holds Try.pinned (OpenSpec.ofChange fnExactWeakPilesWrong)

/-- 'laws.FnExactRoot': WHATEVER THE INPUT: true; the input reads as it did. -/
def fnExactRootSpec : ChangeSpec := { name := "fnExactRoot", fn := fun _ => fun
  | [d1, d2] => { results := [.lit (.bool true)], args := [d1, d2] }
  | _ => none }
def fnExactRootRow : OpenClaim := { program := "ytbgimajgbgfomaa", sum := "50397d6b17baebd6dc6c9baf6264ef028117159f604b73e994aaca3c3985fefc", func := "loop.example/lib-g01439/laws.FnExactRoot", spec := "fnExactRoot", unfollowed := true, recurses := true, apart := false }
def FnExactRootSaid : Prop := fnExactRootRow.holds Try.pinned (OpenSpec.ofChange fnExactRootSpec)

/-- ITS FALSE NEIGHBOUR: 'it returns false'. Refute it at one input. -/
def fnExactRootWrong : ChangeSpec := { name := "fnExactRoot", fn := fun _ => fun
  | [d1, d2] => { results := [.lit (.bool false)], args := [d1, d2] }
  | _ => none }
def FnExactRootWrongFalsely : Prop := fnExactRootRow.holds Try.pinned (OpenSpec.ofChange fnExactRootWrong)

/-- 'laws.FnRootBounds': WHATEVER THE INPUT: true; the input reads as it did. -/
def fnRootBoundsSpec : ChangeSpec := { name := "fnRootBounds", fn := fun _ => fun
  | [d1, d2] => { results := [.lit (.bool true)], args := [d1, d2] }
  | _ => none }
def fnRootBoundsRow : OpenClaim := { program := "ytbgimajgbgfomaa", sum := "50397d6b17baebd6dc6c9baf6264ef028117159f604b73e994aaca3c3985fefc", func := "loop.example/lib-g01439/laws.FnRootBounds", spec := "fnRootBounds", unfollowed := true, recurses := true, apart := false }
def FnRootBoundsSaid : Prop := fnRootBoundsRow.holds Try.pinned (OpenSpec.ofChange fnRootBoundsSpec)

/-- ITS FALSE NEIGHBOUR: 'it returns false'. Refute it at one input. -/
def fnRootBoundsWrong : ChangeSpec := { name := "fnRootBounds", fn := fun _ => fun
  | [d1, d2] => { results := [.lit (.bool false)], args := [d1, d2] }
  | _ => none }
def FnRootBoundsWrongFalsely : Prop := fnRootBoundsRow.holds Try.pinned (OpenSpec.ofChange fnRootBoundsWrong)

/-- 'laws.FnRootPower': WHATEVER THE INPUT: true; the input reads as it did. -/
def fnRootPowerSpec : ChangeSpec := { name := "fnRootPower", fn := fun _ => fun
  | [d1, d2] => { results := [.lit (.bool true)], args := [d1, d2] }
  | _ => none }
def fnRootPowerRow : OpenClaim := { program := "ytbgimajgbgfomaa", sum := "50397d6b17baebd6dc6c9baf6264ef028117159f604b73e994aaca3c3985fefc", func := "loop.example/lib-g01439/laws.FnRootPower", spec := "fnRootPower", unfollowed := true, recurses := true, apart := false }
def FnRootPowerSaid : Prop := fnRootPowerRow.holds Try.pinned (OpenSpec.ofChange fnRootPowerSpec)

/-- ITS FALSE NEIGHBOUR: 'it returns false'. Refute it at one input. -/
def fnRootPowerWrong : ChangeSpec := { name := "fnRootPower", fn := fun _ => fun
  | [d1, d2] => { results := [.lit (.bool false)], args := [d1, d2] }
  | _ => none }
def FnRootPowerWrongFalsely : Prop := fnRootPowerRow.holds Try.pinned (OpenSpec.ofChange fnRootPowerWrong)

/-- 'laws.FnRootRises': WHATEVER THE INPUT: true; the input reads as it did. -/
def fnRootRisesSpec : ChangeSpec := { name := "fnRootRises", fn := fun _ => fun
  | [d1, d2, d3] => { results := [.lit (.bool true)], args := [d1, d2, d3] }
  | _ => none }
def fnRootRisesRow : OpenClaim := { program := "ytbgimajgbgfomaa", sum := "50397d6b17baebd6dc6c9baf6264ef028117159f604b73e994aaca3c3985fefc", func := "loop.example/lib-g01439/laws.FnRootRises", spec := "fnRootRises", unfollowed := true, recurses := true, apart := false }
def FnRootRisesSaid : Prop := fnRootRisesRow.holds Try.pinned (OpenSpec.ofChange fnRootRisesSpec)

/-- ITS FALSE NEIGHBOUR: 'it returns false'. Refute it at one input. -/
def fnRootRisesWrong : ChangeSpec := { name := "fnRootRises", fn := fun _ => fun
  | [d1, d2, d3] => { results := [.lit (.bool false)], args := [d1, d2, d3] }
  | _ => none }
def FnRootRisesWrongFalsely : Prop := fnRootRisesRow.holds Try.pinned (OpenSpec.ofChange fnRootRisesWrong)

/-- 'laws.FnRootTwice': WHATEVER THE INPUT: true; the input reads as it did. -/
def fnRootTwiceSpec : ChangeSpec := { name := "fnRootTwice", fn := fun _ => fun
  | [d] => { results := [.lit (.bool true)], args := [d] }
  | _ => none }
def fnRootTwiceRow : OpenClaim := { program := "ytbgimajgbgfomaa", sum := "50397d6b17baebd6dc6c9baf6264ef028117159f604b73e994aaca3c3985fefc", func := "loop.example/lib-g01439/laws.FnRootTwice", spec := "fnRootTwice", unfollowed := true, recurses := true, apart := false }
def FnRootTwiceSaid : Prop := fnRootTwiceRow.holds Try.pinned (OpenSpec.ofChange fnRootTwiceSpec)

/-- ITS FALSE NEIGHBOUR: 'it returns false'. Refute it at one input. -/
def fnRootTwiceWrong : ChangeSpec := { name := "fnRootTwice", fn := fun _ => fun
  | [d] => { results := [.lit (.bool false)], args := [d] }
  | _ => none }
def FnRootTwiceWrongFalsely : Prop := fnRootTwiceRow.holds Try.pinned (OpenSpec.ofChange fnRootTwiceWrong)

/-- 'laws.FnExactKth': WHATEVER THE INPUT: true; the input reads as it did. -/
def fnExactKthSpec : ChangeSpec := { name := "fnExactKth", fn := fun _ => fun
  | [d1, d2] => { results := [.lit (.bool true)], args := [d1, d2] }
  | _ => none }
def fnExactKthRow : OpenClaim := { program := "ytbgimajgbgfomaa", sum := "50397d6b17baebd6dc6c9baf6264ef028117159f604b73e994aaca3c3985fefc", func := "loop.example/lib-g01439/laws.FnExactKth", spec := "fnExactKth", unfollowed := true, recurses := true, apart := false }
def FnExactKthSaid : Prop := fnExactKthRow.holds Try.pinned (OpenSpec.ofChange fnExactKthSpec)

/-- ITS FALSE NEIGHBOUR: 'it returns false'. Refute it at one input. -/
def fnExactKthWrong : ChangeSpec := { name := "fnExactKth", fn := fun _ => fun
  | [d1, d2] => { results := [.lit (.bool false)], args := [d1, d2] }
  | _ => none }
def FnExactKthWrongFalsely : Prop := fnExactKthRow.holds Try.pinned (OpenSpec.ofChange fnExactKthWrong)

/-- 'laws.FnExactCut': WHATEVER THE INPUT: true; the input reads as it did. -/
def fnExactCutSpec : ChangeSpec := { name := "fnExactCut", fn := fun _ => fun
  | [d1, d2] => { results := [.lit (.bool true)], args := [d1, d2] }
  | _ => none }
def fnExactCutRow : OpenClaim := { program := "ytbgimajgbgfomaa", sum := "50397d6b17baebd6dc6c9baf6264ef028117159f604b73e994aaca3c3985fefc", func := "loop.example/lib-g01439/laws.FnExactCut", spec := "fnExactCut", unfollowed := true, recurses := true, apart := false }
def FnExactCutSaid : Prop := fnExactCutRow.holds Try.pinned (OpenSpec.ofChange fnExactCutSpec)

/-- ITS FALSE NEIGHBOUR: 'it returns false'. Refute it at one input. -/
def fnExactCutWrong : ChangeSpec := { name := "fnExactCut", fn := fun _ => fun
  | [d1, d2] => { results := [.lit (.bool false)], args := [d1, d2] }
  | _ => none }
def FnExactCutWrongFalsely : Prop := fnExactCutRow.holds Try.pinned (OpenSpec.ofChange fnExactCutWrong)

/- THE SECOND FORM. 'bulk': how many values and letters a reading holds, each counted each time it is reached (what is shared counts as often as it is met; a slice's spare places count too). A statement '..UptoSaid' is the law's where the arguments, and the package variables that the reading takes, are together of bulk at most 1048576: NARROWER than '..Said'. Prove '..Said' where nothing that the law and all that it calls make is longer than what came in: it says more and counts as full. Else prove '..UptoSaid'. A law counts once. -/
mutual
def uptoBulk {H : Type} : DataW H → Nat
  | .lit (.string bytes) => bytes.length + 1
  | .lit _ => 1
  | .nil => 1
  | .ptr d => uptoBulk d + 1
  | .slice elems spare => uptoBulkAll elems + uptoBulkAll spare + 1
  | .agg parts => uptoBulkAll parts + 1
  | .iface _ d => uptoBulk d + 1
  | .map entries => uptoBulkEntries entries + 1
  | .held _ => 1
def uptoBulkAll {H : Type} : List (DataW H) → Nat
  | [] => 0
  | d :: r => uptoBulk d + uptoBulkAll r
def uptoBulkEntries {H : Type} : List (Lit × DataW H) → Nat
  | [] => 0
  | x :: r => uptoBulkEntry x + uptoBulkEntries r
def uptoBulkEntry {H : Type} : Lit × DataW H → Nat
  | (.string bytes, d) => bytes.length + uptoBulk d + 1
  | (_, d) => uptoBulk d + 1
 end
def uptoSmall : (H : Type) → List (DataW H) → Bool := fun _ ds => decide (uptoBulkAll ds ≤ 1048576)
def OpenSpec.upto (s : _root_.Go.ChangeSpec) : _root_.Go.OpenSpec := { _root_.Go.OpenSpec.ofChange s with cond := some uptoSmall }

/-- 'laws.FnExactInversions', WHERE WHAT IT READS IS OF BULK AT MOST 1048576: true; the input reads as it did. -/
def fnExactInversionsUptoRow : OpenClaim := { program := "ytbgimajgbgfomaa", sum := "50397d6b17baebd6dc6c9baf6264ef028117159f604b73e994aaca3c3985fefc", func := "loop.example/lib-g01439/laws.FnExactInversions", spec := "fnExactInversions", unfollowed := true, recurses := true, apart := false, narrowed := true }
def FnExactInversionsUptoSaid : Prop := fnExactInversionsUptoRow.holds Try.pinned (OpenSpec.upto fnExactInversionsSpec)

/-- 'laws.FnExactPiles', WHERE WHAT IT READS IS OF BULK AT MOST 1048576: true; the input reads as it did. -/
def fnExactPilesUptoRow : OpenClaim := { program := "ytbgimajgbgfomaa", sum := "50397d6b17baebd6dc6c9baf6264ef028117159f604b73e994aaca3c3985fefc", func := "loop.example/lib-g01439/laws.FnExactPiles", spec := "fnExactPiles", unfollowed := true, recurses := true, apart := false, narrowed := true }
def FnExactPilesUptoSaid : Prop := fnExactPilesUptoRow.holds Try.pinned (OpenSpec.upto fnExactPilesSpec)

/-- 'laws.FnExactWeakPiles', WHERE WHAT IT READS IS OF BULK AT MOST 1048576: true; the input reads as it did. -/
def fnExactWeakPilesUptoRow : OpenClaim := { program := "ytbgimajgbgfomaa", sum := "50397d6b17baebd6dc6c9baf6264ef028117159f604b73e994aaca3c3985fefc", func := "loop.example/lib-g01439/laws.FnExactWeakPiles", spec := "fnExactWeakPiles", unfollowed := true, recurses := true, apart := false, narrowed := true }
def FnExactWeakPilesUptoSaid : Prop := fnExactWeakPilesUptoRow.holds Try.pinned (OpenSpec.upto fnExactWeakPilesSpec)

/-- 'laws.FnExactRoot', WHERE WHAT IT READS IS OF BULK AT MOST 1048576: true; the input reads as it did. -/
def fnExactRootUptoRow : OpenClaim := { program := "ytbgimajgbgfomaa", sum := "50397d6b17baebd6dc6c9baf6264ef028117159f604b73e994aaca3c3985fefc", func := "loop.example/lib-g01439/laws.FnExactRoot", spec := "fnExactRoot", unfollowed := true, recurses := true, apart := false, narrowed := true }
def FnExactRootUptoSaid : Prop := fnExactRootUptoRow.holds Try.pinned (OpenSpec.upto fnExactRootSpec)

/-- 'laws.FnRootBounds', WHERE WHAT IT READS IS OF BULK AT MOST 1048576: true; the input reads as it did. -/
def fnRootBoundsUptoRow : OpenClaim := { program := "ytbgimajgbgfomaa", sum := "50397d6b17baebd6dc6c9baf6264ef028117159f604b73e994aaca3c3985fefc", func := "loop.example/lib-g01439/laws.FnRootBounds", spec := "fnRootBounds", unfollowed := true, recurses := true, apart := false, narrowed := true }
def FnRootBoundsUptoSaid : Prop := fnRootBoundsUptoRow.holds Try.pinned (OpenSpec.upto fnRootBoundsSpec)

/-- 'laws.FnRootPower', WHERE WHAT IT READS IS OF BULK AT MOST 1048576: true; the input reads as it did. -/
def fnRootPowerUptoRow : OpenClaim := { program := "ytbgimajgbgfomaa", sum := "50397d6b17baebd6dc6c9baf6264ef028117159f604b73e994aaca3c3985fefc", func := "loop.example/lib-g01439/laws.FnRootPower", spec := "fnRootPower", unfollowed := true, recurses := true, apart := false, narrowed := true }
def FnRootPowerUptoSaid : Prop := fnRootPowerUptoRow.holds Try.pinned (OpenSpec.upto fnRootPowerSpec)

/-- 'laws.FnRootRises', WHERE WHAT IT READS IS OF BULK AT MOST 1048576: true; the input reads as it did. -/
def fnRootRisesUptoRow : OpenClaim := { program := "ytbgimajgbgfomaa", sum := "50397d6b17baebd6dc6c9baf6264ef028117159f604b73e994aaca3c3985fefc", func := "loop.example/lib-g01439/laws.FnRootRises", spec := "fnRootRises", unfollowed := true, recurses := true, apart := false, narrowed := true }
def FnRootRisesUptoSaid : Prop := fnRootRisesUptoRow.holds Try.pinned (OpenSpec.upto fnRootRisesSpec)

/-- 'laws.FnRootTwice', WHERE WHAT IT READS IS OF BULK AT MOST 1048576: true; the input reads as it did. -/
def fnRootTwiceUptoRow : OpenClaim := { program := "ytbgimajgbgfomaa", sum := "50397d6b17baebd6dc6c9baf6264ef028117159f604b73e994aaca3c3985fefc", func := "loop.example/lib-g01439/laws.FnRootTwice", spec := "fnRootTwice", unfollowed := true, recurses := true, apart := false, narrowed := true }
def FnRootTwiceUptoSaid : Prop := fnRootTwiceUptoRow.holds Try.pinned (OpenSpec.upto fnRootTwiceSpec)

/-- 'laws.FnExactKth', WHERE WHAT IT READS IS OF BULK AT MOST 1048576: true; the input reads as it did. -/
def fnExactKthUptoRow : OpenClaim := { program := "ytbgimajgbgfomaa", sum := "50397d6b17baebd6dc6c9baf6264ef028117159f604b73e994aaca3c3985fefc", func := "loop.example/lib-g01439/laws.FnExactKth", spec := "fnExactKth", unfollowed := true, recurses := true, apart := false, narrowed := true }
def FnExactKthUptoSaid : Prop := fnExactKthUptoRow.holds Try.pinned (OpenSpec.upto fnExactKthSpec)

/-- 'laws.FnExactCut', WHERE WHAT IT READS IS OF BULK AT MOST 1048576: true; the input reads as it did. -/
def fnExactCutUptoRow : OpenClaim := { program := "ytbgimajgbgfomaa", sum := "50397d6b17baebd6dc6c9baf6264ef028117159f604b73e994aaca3c3985fefc", func := "loop.example/lib-g01439/laws.FnExactCut", spec := "fnExactCut", unfollowed := true, recurses := true, apart := false, narrowed := true }
def FnExactCutUptoSaid : Prop := fnExactCutUptoRow.holds Try.pinned (OpenSpec.upto fnExactCutSpec)

end Rows
end Go.Proofs.Ytbgimajgbgfomaa

/-
  No cell of these rows narrows 'for every input' (looked for: loops, veiled, ifaces, maps, wideKeys, modest, calm, conditions, laid).
  DERIVED. THE GIVEN ROWS OF THIS SEAT. 12 by the template 'for every input the law returns true; each argument reads behind the call as it read before'; 0 by the template 'total and deterministic' (their statements: YtgpkobpjgmdegaaTotals.lean).
  GIVEN WITH THE SEED: the statements are not yours to turn. If you find one false, say at which input.
  Laid BY PROGRAM, IN A SANDBOX (cutbox-rows.mjs): the forced cells as the released guide's own fill.sh prints them over the translation 7c95472072e06662… (all of the seat's roots in one cut). By AI agents, Wed Nov 11 2026. No macro, syntax, notation, axiom, sorry.
-/
import Derived.Test.YtgpkobpjgmdegaaChecked
import GoSem.Claim
import GoSem.ClaimJoined
import GoSem.ClaimMapViews
import Derived.JoinedTies
import Derived.KernelRfl
namespace Go.Proofs.Ytgpkobpjgmdegaa
/- THE CELL 'sum', in the pinned program and in every row, IS THE sha256 OF THE DUMP (.gsa) THAT YtgpkobpjgmdegaaProg.lean LOADS. Nothing in Lean hashes anything: it is a label: what it is worth is what the hold of that sum in a sandbox is worth. -/
noncomputable def Try.pinned : Pinned := { name := "ytgpkobpjgmdegaa", sum := "7c95472072e06662a45a59444412d63246534870a6f1e61101293c12fd34d8ea", checked := Try.checked }
namespace Rows
def none {H : Type} : Left H := { results := [], args := [] }

/-- 'laws.FnExactAscending': WHATEVER THE INPUT: true; the input reads as it did. -/
def fnExactAscendingSpec : ChangeSpec := { name := "fnExactAscending", fn := fun _ => fun
  | [d] => { results := [.lit (.bool true)], args := [d] }
  | _ => none }
def fnExactAscendingRow : OpenClaim := { program := "ytgpkobpjgmdegaa", sum := "7c95472072e06662a45a59444412d63246534870a6f1e61101293c12fd34d8ea", func := "loop.example/lib-g01439/laws.FnExactAscending", spec := "fnExactAscending", inPlace := ["internal/reflectlite.ValueOf", "internal/reflectlite.Swapper", "(internal/reflectlite.Value).Len"], unfollowed := true, recurses := true, apart := false }
def FnExactAscendingSaid : Prop := fnExactAscendingRow.holds Try.pinned (OpenSpec.ofChange fnExactAscendingSpec)

/-- ITS FALSE NEIGHBOUR: 'it returns false'. Refute it at one input. -/
def fnExactAscendingWrong : ChangeSpec := { name := "fnExactAscending", fn := fun _ => fun
  | [d] => { results := [.lit (.bool false)], args := [d] }
  | _ => none }
def FnExactAscendingWrongFalsely : Prop := fnExactAscendingRow.holds Try.pinned (OpenSpec.ofChange fnExactAscendingWrong)

/-- 'laws.FnExactUnite': WHATEVER THE INPUT: true; the input reads as it did. -/
def fnExactUniteSpec : ChangeSpec := { name := "fnExactUnite", fn := fun _ => fun
  | [d1, d2] => { results := [.lit (.bool true)], args := [d1, d2] }
  | _ => none }
def fnExactUniteRow : OpenClaim := { program := "ytgpkobpjgmdegaa", sum := "7c95472072e06662a45a59444412d63246534870a6f1e61101293c12fd34d8ea", func := "loop.example/lib-g01439/laws.FnExactUnite", spec := "fnExactUnite", inPlace := ["internal/reflectlite.ValueOf", "internal/reflectlite.Swapper", "(internal/reflectlite.Value).Len"], unfollowed := true, recurses := true, apart := false }
def FnExactUniteSaid : Prop := fnExactUniteRow.holds Try.pinned (OpenSpec.ofChange fnExactUniteSpec)

/-- ITS FALSE NEIGHBOUR: 'it returns false'. Refute it at one input. -/
def fnExactUniteWrong : ChangeSpec := { name := "fnExactUnite", fn := fun _ => fun
  | [d1, d2] => { results := [.lit (.bool false)], args := [d1, d2] }
  | _ => none }
def FnExactUniteWrongFalsely : Prop := fnExactUniteRow.holds Try.pinned (OpenSpec.ofChange fnExactUniteWrong)

/-- 'laws.FnExactTurn': WHATEVER THE INPUT: true; the input reads as it did. -/
def fnExactTurnSpec : ChangeSpec := { name := "fnExactTurn", fn := fun _ => fun
  | [d1, d2] => { results := [.lit (.bool true)], args := [d1, d2] }
  | _ => none }
def fnExactTurnRow : OpenClaim := { program := "ytgpkobpjgmdegaa", sum := "7c95472072e06662a45a59444412d63246534870a6f1e61101293c12fd34d8ea", func := "loop.example/lib-g01439/laws.FnExactTurn", spec := "fnExactTurn", inPlace := ["internal/reflectlite.ValueOf", "internal/reflectlite.Swapper", "(internal/reflectlite.Value).Len"], unfollowed := true, recurses := true, apart := false }
def FnExactTurnSaid : Prop := fnExactTurnRow.holds Try.pinned (OpenSpec.ofChange fnExactTurnSpec)

/-- ITS FALSE NEIGHBOUR: 'it returns false'. Refute it at one input. -/
def fnExactTurnWrong : ChangeSpec := { name := "fnExactTurn", fn := fun _ => fun
  | [d1, d2] => { results := [.lit (.bool false)], args := [d1, d2] }
  | _ => none }
def FnExactTurnWrongFalsely : Prop := fnExactTurnRow.holds Try.pinned (OpenSpec.ofChange fnExactTurnWrong)

/-- 'laws.FnExactRanks': WHATEVER THE INPUT: true; the input reads as it did. -/
def fnExactRanksSpec : ChangeSpec := { name := "fnExactRanks", fn := fun _ => fun
  | [d] => { results := [.lit (.bool true)], args := [d] }
  | _ => none }
def fnExactRanksRow : OpenClaim := { program := "ytgpkobpjgmdegaa", sum := "7c95472072e06662a45a59444412d63246534870a6f1e61101293c12fd34d8ea", func := "loop.example/lib-g01439/laws.FnExactRanks", spec := "fnExactRanks", inPlace := ["internal/reflectlite.ValueOf", "internal/reflectlite.Swapper", "(internal/reflectlite.Value).Len"], unfollowed := true, recurses := true, apart := false }
def FnExactRanksSaid : Prop := fnExactRanksRow.holds Try.pinned (OpenSpec.ofChange fnExactRanksSpec)

/-- ITS FALSE NEIGHBOUR: 'it returns false'. Refute it at one input. -/
def fnExactRanksWrong : ChangeSpec := { name := "fnExactRanks", fn := fun _ => fun
  | [d] => { results := [.lit (.bool false)], args := [d] }
  | _ => none }
def FnExactRanksWrongFalsely : Prop := fnExactRanksRow.holds Try.pinned (OpenSpec.ofChange fnExactRanksWrong)

/-- 'laws.FnExactMeet': WHATEVER THE INPUT: true; the input reads as it did. -/
def fnExactMeetSpec : ChangeSpec := { name := "fnExactMeet", fn := fun _ => fun
  | [d1, d2] => { results := [.lit (.bool true)], args := [d1, d2] }
  | _ => none }
def fnExactMeetRow : OpenClaim := { program := "ytgpkobpjgmdegaa", sum := "7c95472072e06662a45a59444412d63246534870a6f1e61101293c12fd34d8ea", func := "loop.example/lib-g01439/laws.FnExactMeet", spec := "fnExactMeet", inPlace := ["internal/reflectlite.ValueOf", "internal/reflectlite.Swapper", "(internal/reflectlite.Value).Len"], unfollowed := true, recurses := true, apart := false }
def FnExactMeetSaid : Prop := fnExactMeetRow.holds Try.pinned (OpenSpec.ofChange fnExactMeetSpec)

/-- ITS FALSE NEIGHBOUR: 'it returns false'. Refute it at one input. -/
def fnExactMeetWrong : ChangeSpec := { name := "fnExactMeet", fn := fun _ => fun
  | [d1, d2] => { results := [.lit (.bool false)], args := [d1, d2] }
  | _ => none }
def FnExactMeetWrongFalsely : Prop := fnExactMeetRow.holds Try.pinned (OpenSpec.ofChange fnExactMeetWrong)

/-- 'laws.FnExactMinus': WHATEVER THE INPUT: true; the input reads as it did. -/
def fnExactMinusSpec : ChangeSpec := { name := "fnExactMinus", fn := fun _ => fun
  | [d1, d2] => { results := [.lit (.bool true)], args := [d1, d2] }
  | _ => none }
def fnExactMinusRow : OpenClaim := { program := "ytgpkobpjgmdegaa", sum := "7c95472072e06662a45a59444412d63246534870a6f1e61101293c12fd34d8ea", func := "loop.example/lib-g01439/laws.FnExactMinus", spec := "fnExactMinus", inPlace := ["internal/reflectlite.ValueOf", "internal/reflectlite.Swapper", "(internal/reflectlite.Value).Len"], unfollowed := true, recurses := true, apart := false }
def FnExactMinusSaid : Prop := fnExactMinusRow.holds Try.pinned (OpenSpec.ofChange fnExactMinusSpec)

/-- ITS FALSE NEIGHBOUR: 'it returns false'. Refute it at one input. -/
def fnExactMinusWrong : ChangeSpec := { name := "fnExactMinus", fn := fun _ => fun
  | [d1, d2] => { results := [.lit (.bool false)], args := [d1, d2] }
  | _ => none }
def FnExactMinusWrongFalsely : Prop := fnExactMinusRow.holds Try.pinned (OpenSpec.ofChange fnExactMinusWrong)

/-- 'laws.FnSetsCount': WHATEVER THE INPUT: true; the input reads as it did. -/
def fnSetsCountSpec : ChangeSpec := { name := "fnSetsCount", fn := fun _ => fun
  | [d1, d2] => { results := [.lit (.bool true)], args := [d1, d2] }
  | _ => none }
def fnSetsCountRow : OpenClaim := { program := "ytgpkobpjgmdegaa", sum := "7c95472072e06662a45a59444412d63246534870a6f1e61101293c12fd34d8ea", func := "loop.example/lib-g01439/laws.FnSetsCount", spec := "fnSetsCount", inPlace := ["internal/reflectlite.ValueOf", "internal/reflectlite.Swapper", "(internal/reflectlite.Value).Len"], unfollowed := true, recurses := true, apart := false }
def FnSetsCountSaid : Prop := fnSetsCountRow.holds Try.pinned (OpenSpec.ofChange fnSetsCountSpec)

/-- ITS FALSE NEIGHBOUR: 'it returns false'. Refute it at one input. -/
def fnSetsCountWrong : ChangeSpec := { name := "fnSetsCount", fn := fun _ => fun
  | [d1, d2] => { results := [.lit (.bool false)], args := [d1, d2] }
  | _ => none }
def FnSetsCountWrongFalsely : Prop := fnSetsCountRow.holds Try.pinned (OpenSpec.ofChange fnSetsCountWrong)

/-- 'laws.FnSetsSpread': WHATEVER THE INPUT: true; the input reads as it did. -/
def fnSetsSpreadSpec : ChangeSpec := { name := "fnSetsSpread", fn := fun _ => fun
  | [d1, d2, d3] => { results := [.lit (.bool true)], args := [d1, d2, d3] }
  | _ => none }
def fnSetsSpreadRow : OpenClaim := { program := "ytgpkobpjgmdegaa", sum := "7c95472072e06662a45a59444412d63246534870a6f1e61101293c12fd34d8ea", func := "loop.example/lib-g01439/laws.FnSetsSpread", spec := "fnSetsSpread", inPlace := ["internal/reflectlite.ValueOf", "internal/reflectlite.Swapper", "(internal/reflectlite.Value).Len"], unfollowed := true, recurses := true, apart := false }
def FnSetsSpreadSaid : Prop := fnSetsSpreadRow.holds Try.pinned (OpenSpec.ofChange fnSetsSpreadSpec)

/-- ITS FALSE NEIGHBOUR: 'it returns false'. Refute it at one input. -/
def fnSetsSpreadWrong : ChangeSpec := { name := "fnSetsSpread", fn := fun _ => fun
  | [d1, d2, d3] => { results := [.lit (.bool false)], args := [d1, d2, d3] }
  | _ => none }
def FnSetsSpreadWrongFalsely : Prop := fnSetsSpreadRow.holds Try.pinned (OpenSpec.ofChange fnSetsSpreadWrong)

/-- 'laws.FnSetsSwap': WHATEVER THE INPUT: true; the input reads as it did. -/
def fnSetsSwapSpec : ChangeSpec := { name := "fnSetsSwap", fn := fun _ => fun
  | [d1, d2, d3] => { results := [.lit (.bool true)], args := [d1, d2, d3] }
  | _ => none }
def fnSetsSwapRow : OpenClaim := { program := "ytgpkobpjgmdegaa", sum := "7c95472072e06662a45a59444412d63246534870a6f1e61101293c12fd34d8ea", func := "loop.example/lib-g01439/laws.FnSetsSwap", spec := "fnSetsSwap", inPlace := ["internal/reflectlite.ValueOf", "internal/reflectlite.Swapper", "(internal/reflectlite.Value).Len"], unfollowed := true, recurses := true, apart := false }
def FnSetsSwapSaid : Prop := fnSetsSwapRow.holds Try.pinned (OpenSpec.ofChange fnSetsSwapSpec)

/-- ITS FALSE NEIGHBOUR: 'it returns false'. Refute it at one input. -/
def fnSetsSwapWrong : ChangeSpec := { name := "fnSetsSwap", fn := fun _ => fun
  | [d1, d2, d3] => { results := [.lit (.bool false)], args := [d1, d2, d3] }
  | _ => none }
def FnSetsSwapWrongFalsely : Prop := fnSetsSwapRow.holds Try.pinned (OpenSpec.ofChange fnSetsSwapWrong)

/-- 'laws.FnSetsApart': WHATEVER THE INPUT: true; the input reads as it did. -/
def fnSetsApartSpec : ChangeSpec := { name := "fnSetsApart", fn := fun _ => fun
  | [d1, d2] => { results := [.lit (.bool true)], args := [d1, d2] }
  | _ => none }
def fnSetsApartRow : OpenClaim := { program := "ytgpkobpjgmdegaa", sum := "7c95472072e06662a45a59444412d63246534870a6f1e61101293c12fd34d8ea", func := "loop.example/lib-g01439/laws.FnSetsApart", spec := "fnSetsApart", inPlace := ["internal/reflectlite.ValueOf", "internal/reflectlite.Swapper", "(internal/reflectlite.Value).Len"], unfollowed := true, recurses := true, apart := false }
def FnSetsApartSaid : Prop := fnSetsApartRow.holds Try.pinned (OpenSpec.ofChange fnSetsApartSpec)

/-- ITS FALSE NEIGHBOUR: 'it returns false'. Refute it at one input. -/
def fnSetsApartWrong : ChangeSpec := { name := "fnSetsApart", fn := fun _ => fun
  | [d1, d2] => { results := [.lit (.bool false)], args := [d1, d2] }
  | _ => none }
def FnSetsApartWrongFalsely : Prop := fnSetsApartRow.holds Try.pinned (OpenSpec.ofChange fnSetsApartWrong)

/-- 'laws.FnRanksAgain': WHATEVER THE INPUT: true; the input reads as it did. -/
def fnRanksAgainSpec : ChangeSpec := { name := "fnRanksAgain", fn := fun _ => fun
  | [d] => { results := [.lit (.bool true)], args := [d] }
  | _ => none }
def fnRanksAgainRow : OpenClaim := { program := "ytgpkobpjgmdegaa", sum := "7c95472072e06662a45a59444412d63246534870a6f1e61101293c12fd34d8ea", func := "loop.example/lib-g01439/laws.FnRanksAgain", spec := "fnRanksAgain", inPlace := ["internal/reflectlite.ValueOf", "internal/reflectlite.Swapper", "(internal/reflectlite.Value).Len"], unfollowed := true, recurses := true, apart := false }
def FnRanksAgainSaid : Prop := fnRanksAgainRow.holds Try.pinned (OpenSpec.ofChange fnRanksAgainSpec)

/-- ITS FALSE NEIGHBOUR: 'it returns false'. Refute it at one input. -/
def fnRanksAgainWrong : ChangeSpec := { name := "fnRanksAgain", fn := fun _ => fun
  | [d] => { results := [.lit (.bool false)], args := [d] }
  | _ => none }
def FnRanksAgainWrongFalsely : Prop := fnRanksAgainRow.holds Try.pinned (OpenSpec.ofChange fnRanksAgainWrong)

/-- 'laws.FnRanksOrder': WHATEVER THE INPUT: true; the input reads as it did. -/
def fnRanksOrderSpec : ChangeSpec := { name := "fnRanksOrder", fn := fun _ => fun
  | [d] => { results := [.lit (.bool true)], args := [d] }
  | _ => none }
def fnRanksOrderRow : OpenClaim := { program := "ytgpkobpjgmdegaa", sum := "7c95472072e06662a45a59444412d63246534870a6f1e61101293c12fd34d8ea", func := "loop.example/lib-g01439/laws.FnRanksOrder", spec := "fnRanksOrder", inPlace := ["internal/reflectlite.ValueOf", "internal/reflectlite.Swapper", "(internal/reflectlite.Value).Len"], unfollowed := true, recurses := true, apart := false }
def FnRanksOrderSaid : Prop := fnRanksOrderRow.holds Try.pinned (OpenSpec.ofChange fnRanksOrderSpec)

/-- ITS FALSE NEIGHBOUR: 'it returns false'. Refute it at one input. -/
def fnRanksOrderWrong : ChangeSpec := { name := "fnRanksOrder", fn := fun _ => fun
  | [d] => { results := [.lit (.bool false)], args := [d] }
  | _ => none }
def FnRanksOrderWrongFalsely : Prop := fnRanksOrderRow.holds Try.pinned (OpenSpec.ofChange fnRanksOrderWrong)

/- THE SECOND FORM. 'bulk': how many values and letters a reading holds, each counted each time it is reached (what is shared counts as often as it is met; a slice's spare places count too). A statement '..UptoSaid' is the law's where the arguments, and the package variables that the reading takes, are together of bulk at most 1048576: NARROWER than '..Said'. Prove '..Said' where nothing that the law and all that it calls make is longer than what came in: it says more and counts as full. Else prove '..UptoSaid'. A law counts once. -/
mutual
def uptoBulk {H : Type} : DataW H → Nat
  | .lit (.string bytes) => bytes.length + 1
  | .lit _ => 1
  | .nil => 1
  | .ptr d => uptoBulk d + 1
  | .slice elems spare => uptoBulkAll elems + uptoBulkAll spare + 1
  | .agg parts => uptoBulkAll parts + 1
  | .iface _ d => uptoBulk d + 1
  | .map entries => uptoBulkEntries entries + 1
  | .held _ => 1
def uptoBulkAll {H : Type} : List (DataW H) → Nat
  | [] => 0
  | d :: r => uptoBulk d + uptoBulkAll r
def uptoBulkEntries {H : Type} : List (Lit × DataW H) → Nat
  | [] => 0
  | x :: r => uptoBulkEntry x + uptoBulkEntries r
def uptoBulkEntry {H : Type} : Lit × DataW H → Nat
  | (.string bytes, d) => bytes.length + uptoBulk d + 1
  | (_, d) => uptoBulk d + 1
 end
def uptoSmall : (H : Type) → List (DataW H) → Bool := fun _ ds => decide (uptoBulkAll ds ≤ 1048576)
def OpenSpec.upto (s : _root_.Go.ChangeSpec) : _root_.Go.OpenSpec := { _root_.Go.OpenSpec.ofChange s with cond := some uptoSmall }

/-- 'laws.FnExactAscending', WHERE WHAT IT READS IS OF BULK AT MOST 1048576: true; the input reads as it did. -/
def fnExactAscendingUptoRow : OpenClaim := { program := "ytgpkobpjgmdegaa", sum := "7c95472072e06662a45a59444412d63246534870a6f1e61101293c12fd34d8ea", func := "loop.example/lib-g01439/laws.FnExactAscending", spec := "fnExactAscending", inPlace := ["internal/reflectlite.ValueOf", "internal/reflectlite.Swapper", "(internal/reflectlite.Value).Len"], unfollowed := true, recurses := true, apart := false, narrowed := true }
def FnExactAscendingUptoSaid : Prop := fnExactAscendingUptoRow.holds Try.pinned (OpenSpec.upto fnExactAscendingSpec)

/-- 'laws.FnExactUnite', WHERE WHAT IT READS IS OF BULK AT MOST 1048576: true; the input reads as it did. -/
def fnExactUniteUptoRow : OpenClaim := { program := "ytgpkobpjgmdegaa", sum := "7c95472072e06662a45a59444412d63246534870a6f1e61101293c12fd34d8ea", func := "loop.example/lib-g01439/laws.FnExactUnite", spec := "fnExactUnite", inPlace := ["internal/reflectlite.ValueOf", "internal/reflectlite.Swapper", "(internal/reflectlite.Value).Len"], unfollowed := true, recurses := true, apart := false, narrowed := true }
def FnExactUniteUptoSaid : Prop := fnExactUniteUptoRow.holds Try.pinned (OpenSpec.upto fnExactUniteSpec)

/-- 'laws.FnExactTurn', WHERE WHAT IT READS IS OF BULK AT MOST 1048576: true; the input reads as it did. -/
def fnExactTurnUptoRow : OpenClaim := { program := "ytgpkobpjgmdegaa", sum := "7c95472072e06662a45a59444412d63246534870a6f1e61101293c12fd34d8ea", func := "loop.example/lib-g01439/laws.FnExactTurn", spec := "fnExactTurn", inPlace := ["internal/reflectlite.ValueOf", "internal/reflectlite.Swapper", "(internal/reflectlite.Value).Len"], unfollowed := true, recurses := true, apart := false, narrowed := true }
def FnExactTurnUptoSaid : Prop := fnExactTurnUptoRow.holds Try.pinned (OpenSpec.upto fnExactTurnSpec)

/-- 'laws.FnExactRanks', WHERE WHAT IT READS IS OF BULK AT MOST 1048576: true; the input reads as it did. -/
def fnExactRanksUptoRow : OpenClaim := { program := "ytgpkobpjgmdegaa", sum := "7c95472072e06662a45a59444412d63246534870a6f1e61101293c12fd34d8ea", func := "loop.example/lib-g01439/laws.FnExactRanks", spec := "fnExactRanks", inPlace := ["internal/reflectlite.ValueOf", "internal/reflectlite.Swapper", "(internal/reflectlite.Value).Len"], unfollowed := true, recurses := true, apart := false, narrowed := true }
def FnExactRanksUptoSaid : Prop := fnExactRanksUptoRow.holds Try.pinned (OpenSpec.upto fnExactRanksSpec)

/-- 'laws.FnExactMeet', WHERE WHAT IT READS IS OF BULK AT MOST 1048576: true; the input reads as it did. -/
def fnExactMeetUptoRow : OpenClaim := { program := "ytgpkobpjgmdegaa", sum := "7c95472072e06662a45a59444412d63246534870a6f1e61101293c12fd34d8ea", func := "loop.example/lib-g01439/laws.FnExactMeet", spec := "fnExactMeet", inPlace := ["internal/reflectlite.ValueOf", "internal/reflectlite.Swapper", "(internal/reflectlite.Value).Len"], unfollowed := true, recurses := true, apart := false, narrowed := true }
def FnExactMeetUptoSaid : Prop := fnExactMeetUptoRow.holds Try.pinned (OpenSpec.upto fnExactMeetSpec)

/-- 'laws.FnExactMinus', WHERE WHAT IT READS IS OF BULK AT MOST 1048576: true; the input reads as it did. -/
def fnExactMinusUptoRow : OpenClaim := { program := "ytgpkobpjgmdegaa", sum := "7c95472072e06662a45a59444412d63246534870a6f1e61101293c12fd34d8ea", func := "loop.example/lib-g01439/laws.FnExactMinus", spec := "fnExactMinus", inPlace := ["internal/reflectlite.ValueOf", "internal/reflectlite.Swapper", "(internal/reflectlite.Value).Len"], unfollowed := true, recurses := true, apart := false, narrowed := true }
def FnExactMinusUptoSaid : Prop := fnExactMinusUptoRow.holds Try.pinned (OpenSpec.upto fnExactMinusSpec)

/-- 'laws.FnSetsCount', WHERE WHAT IT READS IS OF BULK AT MOST 1048576: true; the input reads as it did. -/
def fnSetsCountUptoRow : OpenClaim := { program := "ytgpkobpjgmdegaa", sum := "7c95472072e06662a45a59444412d63246534870a6f1e61101293c12fd34d8ea", func := "loop.example/lib-g01439/laws.FnSetsCount", spec := "fnSetsCount", inPlace := ["internal/reflectlite.ValueOf", "internal/reflectlite.Swapper", "(internal/reflectlite.Value).Len"], unfollowed := true, recurses := true, apart := false, narrowed := true }
def FnSetsCountUptoSaid : Prop := fnSetsCountUptoRow.holds Try.pinned (OpenSpec.upto fnSetsCountSpec)

/-- 'laws.FnSetsSpread', WHERE WHAT IT READS IS OF BULK AT MOST 1048576: true; the input reads as it did. -/
def fnSetsSpreadUptoRow : OpenClaim := { program := "ytgpkobpjgmdegaa", sum := "7c95472072e06662a45a59444412d63246534870a6f1e61101293c12fd34d8ea", func := "loop.example/lib-g01439/laws.FnSetsSpread", spec := "fnSetsSpread", inPlace := ["internal/reflectlite.ValueOf", "internal/reflectlite.Swapper", "(internal/reflectlite.Value).Len"], unfollowed := true, recurses := true, apart := false, narrowed := true }
def FnSetsSpreadUptoSaid : Prop := fnSetsSpreadUptoRow.holds Try.pinned (OpenSpec.upto fnSetsSpreadSpec)

/-- 'laws.FnSetsSwap', WHERE WHAT IT READS IS OF BULK AT MOST 1048576: true; the input reads as it did. -/
def fnSetsSwapUptoRow : OpenClaim := { program := "ytgpkobpjgmdegaa", sum := "7c95472072e06662a45a59444412d63246534870a6f1e61101293c12fd34d8ea", func := "loop.example/lib-g01439/laws.FnSetsSwap", spec := "fnSetsSwap", inPlace := ["internal/reflectlite.ValueOf", "internal/reflectlite.Swapper", "(internal/reflectlite.Value).Len"], unfollowed := true, recurses := true, apart := false, narrowed := true }
def FnSetsSwapUptoSaid : Prop := fnSetsSwapUptoRow.holds Try.pinned (OpenSpec.upto fnSetsSwapSpec)

/-- 'laws.FnSetsApart', WHERE WHAT IT READS IS OF BULK AT MOST 1048576: true; the input reads as it did. -/
def fnSetsApartUptoRow : OpenClaim := { program := "ytgpkobpjgmdegaa", sum := "7c95472072e06662a45a59444412d63246534870a6f1e61101293c12fd34d8ea", func := "loop.example/lib-g01439/laws.FnSetsApart", spec := "fnSetsApart", inPlace := ["internal/reflectlite.ValueOf", "internal/reflectlite.Swapper", "(internal/reflectlite.Value).Len"], unfollowed := true, recurses := true, apart := false, narrowed := true }
def FnSetsApartUptoSaid : Prop := fnSetsApartUptoRow.holds Try.pinned (OpenSpec.upto fnSetsApartSpec)

/-- 'laws.FnRanksAgain', WHERE WHAT IT READS IS OF BULK AT MOST 1048576: true; the input reads as it did. -/
def fnRanksAgainUptoRow : OpenClaim := { program := "ytgpkobpjgmdegaa", sum := "7c95472072e06662a45a59444412d63246534870a6f1e61101293c12fd34d8ea", func := "loop.example/lib-g01439/laws.FnRanksAgain", spec := "fnRanksAgain", inPlace := ["internal/reflectlite.ValueOf", "internal/reflectlite.Swapper", "(internal/reflectlite.Value).Len"], unfollowed := true, recurses := true, apart := false, narrowed := true }
def FnRanksAgainUptoSaid : Prop := fnRanksAgainUptoRow.holds Try.pinned (OpenSpec.upto fnRanksAgainSpec)

/-- 'laws.FnRanksOrder', WHERE WHAT IT READS IS OF BULK AT MOST 1048576: true; the input reads as it did. -/
def fnRanksOrderUptoRow : OpenClaim := { program := "ytgpkobpjgmdegaa", sum := "7c95472072e06662a45a59444412d63246534870a6f1e61101293c12fd34d8ea", func := "loop.example/lib-g01439/laws.FnRanksOrder", spec := "fnRanksOrder", inPlace := ["internal/reflectlite.ValueOf", "internal/reflectlite.Swapper", "(internal/reflectlite.Value).Len"], unfollowed := true, recurses := true, apart := false, narrowed := true }
def FnRanksOrderUptoSaid : Prop := fnRanksOrderUptoRow.holds Try.pinned (OpenSpec.upto fnRanksOrderSpec)

end Rows
end Go.Proofs.Ytgpkobpjgmdegaa

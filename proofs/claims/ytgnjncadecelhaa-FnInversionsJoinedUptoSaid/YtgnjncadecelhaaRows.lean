/-
  No cell of these rows narrows 'for every input' (looked for: loops, veiled, ifaces, maps, wideKeys, modest, calm, conditions, laid).
  DERIVED. THE GIVEN ROWS OF THIS SEAT. 12 by the template 'for every input the law returns true; each argument reads behind the call as it read before'; 0 by the template 'total and deterministic' (their statements: YtgnjncadecelhaaTotals.lean).
  GIVEN WITH THE SEED: the statements are not yours to turn. If you find one false, say at which input.
  Laid BY PROGRAM, IN A SANDBOX (cutbox-rows.mjs): the forced cells as the released guide's own fill.sh prints them over the translation ed4409fd2524174b… (all of the seat's roots in one cut). By AI agents, Wed Nov 11 2026. No macro, syntax, notation, axiom, sorry.
-/
import Derived.Test.YtgnjncadecelhaaChecked
import GoSem.Claim
import GoSem.ClaimJoined
import GoSem.ClaimMapViews
import Derived.JoinedTies
import Derived.KernelRfl
namespace Go.Proofs.Ytgnjncadecelhaa
/- THE CELL 'sum', in the pinned program and in every row, IS THE sha256 OF THE DUMP (.gsa) THAT YtgnjncadecelhaaProg.lean LOADS. Nothing in Lean hashes anything: it is a label: what it is worth is what the hold of that sum in a sandbox is worth. -/
noncomputable def Try.pinned : Pinned := { name := "ytgnjncadecelhaa", sum := "ed4409fd2524174bac1c63125879fbee6d4a1d42a89a6185094a90ffc33664e3", checked := Try.checked }
namespace Rows
def none {H : Type} : Left H := { results := [], args := [] }

/-- 'laws.FnSetsMorgan': WHATEVER THE INPUT: true; the input reads as it did. -/
def fnSetsMorganSpec : ChangeSpec := { name := "fnSetsMorgan", fn := fun _ => fun
  | [d1, d2, d3] => { results := [.lit (.bool true)], args := [d1, d2, d3] }
  | _ => none }
def fnSetsMorganRow : OpenClaim := { program := "ytgnjncadecelhaa", sum := "ed4409fd2524174bac1c63125879fbee6d4a1d42a89a6185094a90ffc33664e3", func := "loop.example/lib-g01439/laws.FnSetsMorgan", spec := "fnSetsMorgan", inPlace := ["internal/reflectlite.ValueOf", "internal/reflectlite.Swapper", "(internal/reflectlite.Value).Len"], unfollowed := true, recurses := true, apart := false }
def FnSetsMorganSaid : Prop := fnSetsMorganRow.holds Try.pinned (OpenSpec.ofChange fnSetsMorganSpec)

/-- ITS FALSE NEIGHBOUR: 'it returns false'. Refute it at one input. -/
def fnSetsMorganWrong : ChangeSpec := { name := "fnSetsMorgan", fn := fun _ => fun
  | [d1, d2, d3] => { results := [.lit (.bool false)], args := [d1, d2, d3] }
  | _ => none }
def FnSetsMorganWrongFalsely : Prop := fnSetsMorganRow.holds Try.pinned (OpenSpec.ofChange fnSetsMorganWrong)

/-- 'laws.FnBagBack': WHATEVER THE INPUT: true; the input reads as it did. -/
def fnBagBackSpec : ChangeSpec := { name := "fnBagBack", fn := fun _ => fun
  | [d1, d2] => { results := [.lit (.bool true)], args := [d1, d2] }
  | _ => none }
def fnBagBackRow : OpenClaim := { program := "ytgnjncadecelhaa", sum := "ed4409fd2524174bac1c63125879fbee6d4a1d42a89a6185094a90ffc33664e3", func := "loop.example/lib-g01439/laws.FnBagBack", spec := "fnBagBack", inPlace := ["internal/reflectlite.ValueOf", "internal/reflectlite.Swapper", "(internal/reflectlite.Value).Len"], unfollowed := true, recurses := true, apart := false }
def FnBagBackSaid : Prop := fnBagBackRow.holds Try.pinned (OpenSpec.ofChange fnBagBackSpec)

/-- ITS FALSE NEIGHBOUR: 'it returns false'. Refute it at one input. -/
def fnBagBackWrong : ChangeSpec := { name := "fnBagBack", fn := fun _ => fun
  | [d1, d2] => { results := [.lit (.bool false)], args := [d1, d2] }
  | _ => none }
def FnBagBackWrongFalsely : Prop := fnBagBackRow.holds Try.pinned (OpenSpec.ofChange fnBagBackWrong)

/-- 'laws.FnBagCut': WHATEVER THE INPUT: true; the input reads as it did. -/
def fnBagCutSpec : ChangeSpec := { name := "fnBagCut", fn := fun _ => fun
  | [d1, d2, d3] => { results := [.lit (.bool true)], args := [d1, d2, d3] }
  | _ => none }
def fnBagCutRow : OpenClaim := { program := "ytgnjncadecelhaa", sum := "ed4409fd2524174bac1c63125879fbee6d4a1d42a89a6185094a90ffc33664e3", func := "loop.example/lib-g01439/laws.FnBagCut", spec := "fnBagCut", inPlace := ["internal/reflectlite.ValueOf", "internal/reflectlite.Swapper", "(internal/reflectlite.Value).Len"], unfollowed := true, recurses := true, apart := false }
def FnBagCutSaid : Prop := fnBagCutRow.holds Try.pinned (OpenSpec.ofChange fnBagCutSpec)

/-- ITS FALSE NEIGHBOUR: 'it returns false'. Refute it at one input. -/
def fnBagCutWrong : ChangeSpec := { name := "fnBagCut", fn := fun _ => fun
  | [d1, d2, d3] => { results := [.lit (.bool false)], args := [d1, d2, d3] }
  | _ => none }
def FnBagCutWrongFalsely : Prop := fnBagCutRow.holds Try.pinned (OpenSpec.ofChange fnBagCutWrong)

/-- 'laws.FnBagEmpty': WHATEVER THE INPUT: true; the input reads as it did. -/
def fnBagEmptySpec : ChangeSpec := { name := "fnBagEmpty", fn := fun _ => fun
  | [d1, d2] => { results := [.lit (.bool true)], args := [d1, d2] }
  | _ => none }
def fnBagEmptyRow : OpenClaim := { program := "ytgnjncadecelhaa", sum := "ed4409fd2524174bac1c63125879fbee6d4a1d42a89a6185094a90ffc33664e3", func := "loop.example/lib-g01439/laws.FnBagEmpty", spec := "fnBagEmpty", inPlace := ["internal/reflectlite.ValueOf", "internal/reflectlite.Swapper", "(internal/reflectlite.Value).Len"], unfollowed := true, recurses := true, apart := false }
def FnBagEmptySaid : Prop := fnBagEmptyRow.holds Try.pinned (OpenSpec.ofChange fnBagEmptySpec)

/-- ITS FALSE NEIGHBOUR: 'it returns false'. Refute it at one input. -/
def fnBagEmptyWrong : ChangeSpec := { name := "fnBagEmpty", fn := fun _ => fun
  | [d1, d2] => { results := [.lit (.bool false)], args := [d1, d2] }
  | _ => none }
def FnBagEmptyWrongFalsely : Prop := fnBagEmptyRow.holds Try.pinned (OpenSpec.ofChange fnBagEmptyWrong)

/-- 'laws.FnBagSorts': WHATEVER THE INPUT: true; the input reads as it did. -/
def fnBagSortsSpec : ChangeSpec := { name := "fnBagSorts", fn := fun _ => fun
  | [d] => { results := [.lit (.bool true)], args := [d] }
  | _ => none }
def fnBagSortsRow : OpenClaim := { program := "ytgnjncadecelhaa", sum := "ed4409fd2524174bac1c63125879fbee6d4a1d42a89a6185094a90ffc33664e3", func := "loop.example/lib-g01439/laws.FnBagSorts", spec := "fnBagSorts", inPlace := ["internal/reflectlite.ValueOf", "internal/reflectlite.Swapper", "(internal/reflectlite.Value).Len"], unfollowed := true, recurses := true, apart := false }
def FnBagSortsSaid : Prop := fnBagSortsRow.holds Try.pinned (OpenSpec.ofChange fnBagSortsSpec)

/-- ITS FALSE NEIGHBOUR: 'it returns false'. Refute it at one input. -/
def fnBagSortsWrong : ChangeSpec := { name := "fnBagSorts", fn := fun _ => fun
  | [d] => { results := [.lit (.bool false)], args := [d] }
  | _ => none }
def FnBagSortsWrongFalsely : Prop := fnBagSortsRow.holds Try.pinned (OpenSpec.ofChange fnBagSortsWrong)

/-- 'laws.FnBagTells': WHATEVER THE INPUT: true; the input reads as it did. -/
def fnBagTellsSpec : ChangeSpec := { name := "fnBagTells", fn := fun _ => fun
  | [d] => { results := [.lit (.bool true)], args := [d] }
  | _ => none }
def fnBagTellsRow : OpenClaim := { program := "ytgnjncadecelhaa", sum := "ed4409fd2524174bac1c63125879fbee6d4a1d42a89a6185094a90ffc33664e3", func := "loop.example/lib-g01439/laws.FnBagTells", spec := "fnBagTells", inPlace := ["internal/reflectlite.ValueOf", "internal/reflectlite.Swapper", "(internal/reflectlite.Value).Len"], unfollowed := true, recurses := true, apart := false }
def FnBagTellsSaid : Prop := fnBagTellsRow.holds Try.pinned (OpenSpec.ofChange fnBagTellsSpec)

/-- ITS FALSE NEIGHBOUR: 'it returns false'. Refute it at one input. -/
def fnBagTellsWrong : ChangeSpec := { name := "fnBagTells", fn := fun _ => fun
  | [d] => { results := [.lit (.bool false)], args := [d] }
  | _ => none }
def FnBagTellsWrongFalsely : Prop := fnBagTellsRow.holds Try.pinned (OpenSpec.ofChange fnBagTellsWrong)

/-- 'laws.FnExactBag': WHATEVER THE INPUT: true; the input reads as it did. -/
def fnExactBagSpec : ChangeSpec := { name := "fnExactBag", fn := fun _ => fun
  | [d1, d2] => { results := [.lit (.bool true)], args := [d1, d2] }
  | _ => none }
def fnExactBagRow : OpenClaim := { program := "ytgnjncadecelhaa", sum := "ed4409fd2524174bac1c63125879fbee6d4a1d42a89a6185094a90ffc33664e3", func := "loop.example/lib-g01439/laws.FnExactBag", spec := "fnExactBag", inPlace := ["internal/reflectlite.ValueOf", "internal/reflectlite.Swapper", "(internal/reflectlite.Value).Len"], unfollowed := true, recurses := true, apart := false }
def FnExactBagSaid : Prop := fnExactBagRow.holds Try.pinned (OpenSpec.ofChange fnExactBagSpec)

/-- ITS FALSE NEIGHBOUR: 'it returns false'. Refute it at one input. -/
def fnExactBagWrong : ChangeSpec := { name := "fnExactBag", fn := fun _ => fun
  | [d1, d2] => { results := [.lit (.bool false)], args := [d1, d2] }
  | _ => none }
def FnExactBagWrongFalsely : Prop := fnExactBagRow.holds Try.pinned (OpenSpec.ofChange fnExactBagWrong)

/-- 'laws.FnInversionsJoined': WHATEVER THE INPUT: true; the input reads as it did. -/
def fnInversionsJoinedSpec : ChangeSpec := { name := "fnInversionsJoined", fn := fun _ => fun
  | [d1, d2] => { results := [.lit (.bool true)], args := [d1, d2] }
  | _ => none }
def fnInversionsJoinedRow : OpenClaim := { program := "ytgnjncadecelhaa", sum := "ed4409fd2524174bac1c63125879fbee6d4a1d42a89a6185094a90ffc33664e3", func := "loop.example/lib-g01439/laws.FnInversionsJoined", spec := "fnInversionsJoined", inPlace := ["internal/reflectlite.ValueOf", "internal/reflectlite.Swapper", "(internal/reflectlite.Value).Len"], unfollowed := true, recurses := true, apart := false }
def FnInversionsJoinedSaid : Prop := fnInversionsJoinedRow.holds Try.pinned (OpenSpec.ofChange fnInversionsJoinedSpec)

/-- ITS FALSE NEIGHBOUR: 'it returns false'. Refute it at one input. -/
def fnInversionsJoinedWrong : ChangeSpec := { name := "fnInversionsJoined", fn := fun _ => fun
  | [d1, d2] => { results := [.lit (.bool false)], args := [d1, d2] }
  | _ => none }
def FnInversionsJoinedWrongFalsely : Prop := fnInversionsJoinedRow.holds Try.pinned (OpenSpec.ofChange fnInversionsJoinedWrong)

/-- 'laws.FnTurnBack': WHATEVER THE INPUT: true; the input reads as it did. -/
def fnTurnBackSpec : ChangeSpec := { name := "fnTurnBack", fn := fun _ => fun
  | [d1, d2] => { results := [.lit (.bool true)], args := [d1, d2] }
  | _ => none }
def fnTurnBackRow : OpenClaim := { program := "ytgnjncadecelhaa", sum := "ed4409fd2524174bac1c63125879fbee6d4a1d42a89a6185094a90ffc33664e3", func := "loop.example/lib-g01439/laws.FnTurnBack", spec := "fnTurnBack", inPlace := ["internal/reflectlite.ValueOf", "internal/reflectlite.Swapper", "(internal/reflectlite.Value).Len"], unfollowed := true, recurses := true, apart := false }
def FnTurnBackSaid : Prop := fnTurnBackRow.holds Try.pinned (OpenSpec.ofChange fnTurnBackSpec)

/-- ITS FALSE NEIGHBOUR: 'it returns false'. Refute it at one input. -/
def fnTurnBackWrong : ChangeSpec := { name := "fnTurnBack", fn := fun _ => fun
  | [d1, d2] => { results := [.lit (.bool false)], args := [d1, d2] }
  | _ => none }
def FnTurnBackWrongFalsely : Prop := fnTurnBackRow.holds Try.pinned (OpenSpec.ofChange fnTurnBackWrong)

/-- 'laws.FnTurnBegin': WHATEVER THE INPUT: true; the input reads as it did. -/
def fnTurnBeginSpec : ChangeSpec := { name := "fnTurnBegin", fn := fun _ => fun
  | [d1, d2] => { results := [.lit (.bool true)], args := [d1, d2] }
  | _ => none }
def fnTurnBeginRow : OpenClaim := { program := "ytgnjncadecelhaa", sum := "ed4409fd2524174bac1c63125879fbee6d4a1d42a89a6185094a90ffc33664e3", func := "loop.example/lib-g01439/laws.FnTurnBegin", spec := "fnTurnBegin", inPlace := ["internal/reflectlite.ValueOf", "internal/reflectlite.Swapper", "(internal/reflectlite.Value).Len"], unfollowed := true, recurses := true, apart := false }
def FnTurnBeginSaid : Prop := fnTurnBeginRow.holds Try.pinned (OpenSpec.ofChange fnTurnBeginSpec)

/-- ITS FALSE NEIGHBOUR: 'it returns false'. Refute it at one input. -/
def fnTurnBeginWrong : ChangeSpec := { name := "fnTurnBegin", fn := fun _ => fun
  | [d1, d2] => { results := [.lit (.bool false)], args := [d1, d2] }
  | _ => none }
def FnTurnBeginWrongFalsely : Prop := fnTurnBeginRow.holds Try.pinned (OpenSpec.ofChange fnTurnBeginWrong)

/-- 'laws.FnInversionsRanks': WHATEVER THE INPUT: true; the input reads as it did. -/
def fnInversionsRanksSpec : ChangeSpec := { name := "fnInversionsRanks", fn := fun _ => fun
  | [d] => { results := [.lit (.bool true)], args := [d] }
  | _ => none }
def fnInversionsRanksRow : OpenClaim := { program := "ytgnjncadecelhaa", sum := "ed4409fd2524174bac1c63125879fbee6d4a1d42a89a6185094a90ffc33664e3", func := "loop.example/lib-g01439/laws.FnInversionsRanks", spec := "fnInversionsRanks", inPlace := ["internal/reflectlite.ValueOf", "internal/reflectlite.Swapper", "(internal/reflectlite.Value).Len"], unfollowed := true, recurses := true, apart := false }
def FnInversionsRanksSaid : Prop := fnInversionsRanksRow.holds Try.pinned (OpenSpec.ofChange fnInversionsRanksSpec)

/-- ITS FALSE NEIGHBOUR: 'it returns false'. Refute it at one input. -/
def fnInversionsRanksWrong : ChangeSpec := { name := "fnInversionsRanks", fn := fun _ => fun
  | [d] => { results := [.lit (.bool false)], args := [d] }
  | _ => none }
def FnInversionsRanksWrongFalsely : Prop := fnInversionsRanksRow.holds Try.pinned (OpenSpec.ofChange fnInversionsRanksWrong)

/-- 'laws.FnPilesRanks': WHATEVER THE INPUT: true; the input reads as it did. -/
def fnPilesRanksSpec : ChangeSpec := { name := "fnPilesRanks", fn := fun _ => fun
  | [d] => { results := [.lit (.bool true)], args := [d] }
  | _ => none }
def fnPilesRanksRow : OpenClaim := { program := "ytgnjncadecelhaa", sum := "ed4409fd2524174bac1c63125879fbee6d4a1d42a89a6185094a90ffc33664e3", func := "loop.example/lib-g01439/laws.FnPilesRanks", spec := "fnPilesRanks", inPlace := ["internal/reflectlite.ValueOf", "internal/reflectlite.Swapper", "(internal/reflectlite.Value).Len"], unfollowed := true, recurses := true, apart := false }
def FnPilesRanksSaid : Prop := fnPilesRanksRow.holds Try.pinned (OpenSpec.ofChange fnPilesRanksSpec)

/-- ITS FALSE NEIGHBOUR: 'it returns false'. Refute it at one input. -/
def fnPilesRanksWrong : ChangeSpec := { name := "fnPilesRanks", fn := fun _ => fun
  | [d] => { results := [.lit (.bool false)], args := [d] }
  | _ => none }
def FnPilesRanksWrongFalsely : Prop := fnPilesRanksRow.holds Try.pinned (OpenSpec.ofChange fnPilesRanksWrong)

/- THE SECOND FORM. 'bulk': how many values and letters a reading holds, each counted each time it is reached (what is shared counts as often as it is met; a slice's spare places count too). A statement '..UptoSaid' is the law's where the arguments, and the package variables that the reading takes, are together of bulk at most 1048576: NARROWER than '..Said'. Prove '..Said' where nothing that the law and all that it calls make is longer than what came in: it says more and counts as full. Else prove '..UptoSaid'. A law counts once. -/
mutual
def uptoBulk {H : Type} : DataW H → Nat
  | .lit (.string bytes) => bytes.length + 1
  | .lit _ => 1
  | .nil => 1
  | .ptr d => uptoBulk d + 1
  | .slice elems spare => uptoBulkAll elems + uptoBulkAll spare + 1
  | .agg parts => uptoBulkAll parts + 1
  | .iface _ d => uptoBulk d + 1
  | .map entries => uptoBulkEntries entries + 1
  | .held _ => 1
def uptoBulkAll {H : Type} : List (DataW H) → Nat
  | [] => 0
  | d :: r => uptoBulk d + uptoBulkAll r
def uptoBulkEntries {H : Type} : List (Lit × DataW H) → Nat
  | [] => 0
  | x :: r => uptoBulkEntry x + uptoBulkEntries r
def uptoBulkEntry {H : Type} : Lit × DataW H → Nat
  | (.string bytes, d) => bytes.length + uptoBulk d + 1
  | (_, d) => uptoBulk d + 1
 end
def uptoSmall : (H : Type) → List (DataW H) → Bool := fun _ ds => decide (uptoBulkAll ds ≤ 1048576)
def OpenSpec.upto (s : _root_.Go.ChangeSpec) : _root_.Go.OpenSpec := { _root_.Go.OpenSpec.ofChange s with cond := some uptoSmall }

/-- 'laws.FnSetsMorgan', WHERE WHAT IT READS IS OF BULK AT MOST 1048576: true; the input reads as it did. -/
def fnSetsMorganUptoRow : OpenClaim := { program := "ytgnjncadecelhaa", sum := "ed4409fd2524174bac1c63125879fbee6d4a1d42a89a6185094a90ffc33664e3", func := "loop.example/lib-g01439/laws.FnSetsMorgan", spec := "fnSetsMorgan", inPlace := ["internal/reflectlite.ValueOf", "internal/reflectlite.Swapper", "(internal/reflectlite.Value).Len"], unfollowed := true, recurses := true, apart := false, narrowed := true }
def FnSetsMorganUptoSaid : Prop := fnSetsMorganUptoRow.holds Try.pinned (OpenSpec.upto fnSetsMorganSpec)

/-- 'laws.FnBagBack', WHERE WHAT IT READS IS OF BULK AT MOST 1048576: true; the input reads as it did. -/
def fnBagBackUptoRow : OpenClaim := { program := "ytgnjncadecelhaa", sum := "ed4409fd2524174bac1c63125879fbee6d4a1d42a89a6185094a90ffc33664e3", func := "loop.example/lib-g01439/laws.FnBagBack", spec := "fnBagBack", inPlace := ["internal/reflectlite.ValueOf", "internal/reflectlite.Swapper", "(internal/reflectlite.Value).Len"], unfollowed := true, recurses := true, apart := false, narrowed := true }
def FnBagBackUptoSaid : Prop := fnBagBackUptoRow.holds Try.pinned (OpenSpec.upto fnBagBackSpec)

/-- 'laws.FnBagCut', WHERE WHAT IT READS IS OF BULK AT MOST 1048576: true; the input reads as it did. -/
def fnBagCutUptoRow : OpenClaim := { program := "ytgnjncadecelhaa", sum := "ed4409fd2524174bac1c63125879fbee6d4a1d42a89a6185094a90ffc33664e3", func := "loop.example/lib-g01439/laws.FnBagCut", spec := "fnBagCut", inPlace := ["internal/reflectlite.ValueOf", "internal/reflectlite.Swapper", "(internal/reflectlite.Value).Len"], unfollowed := true, recurses := true, apart := false, narrowed := true }
def FnBagCutUptoSaid : Prop := fnBagCutUptoRow.holds Try.pinned (OpenSpec.upto fnBagCutSpec)

/-- 'laws.FnBagEmpty', WHERE WHAT IT READS IS OF BULK AT MOST 1048576: true; the input reads as it did. -/
def fnBagEmptyUptoRow : OpenClaim := { program := "ytgnjncadecelhaa", sum := "ed4409fd2524174bac1c63125879fbee6d4a1d42a89a6185094a90ffc33664e3", func := "loop.example/lib-g01439/laws.FnBagEmpty", spec := "fnBagEmpty", inPlace := ["internal/reflectlite.ValueOf", "internal/reflectlite.Swapper", "(internal/reflectlite.Value).Len"], unfollowed := true, recurses := true, apart := false, narrowed := true }
def FnBagEmptyUptoSaid : Prop := fnBagEmptyUptoRow.holds Try.pinned (OpenSpec.upto fnBagEmptySpec)

/-- 'laws.FnBagSorts', WHERE WHAT IT READS IS OF BULK AT MOST 1048576: true; the input reads as it did. -/
def fnBagSortsUptoRow : OpenClaim := { program := "ytgnjncadecelhaa", sum := "ed4409fd2524174bac1c63125879fbee6d4a1d42a89a6185094a90ffc33664e3", func := "loop.example/lib-g01439/laws.FnBagSorts", spec := "fnBagSorts", inPlace := ["internal/reflectlite.ValueOf", "internal/reflectlite.Swapper", "(internal/reflectlite.Value).Len"], unfollowed := true, recurses := true, apart := false, narrowed := true }
def FnBagSortsUptoSaid : Prop := fnBagSortsUptoRow.holds Try.pinned (OpenSpec.upto fnBagSortsSpec)

/-- 'laws.FnBagTells', WHERE WHAT IT READS IS OF BULK AT MOST 1048576: true; the input reads as it did. -/
def fnBagTellsUptoRow : OpenClaim := { program := "ytgnjncadecelhaa", sum := "ed4409fd2524174bac1c63125879fbee6d4a1d42a89a6185094a90ffc33664e3", func := "loop.example/lib-g01439/laws.FnBagTells", spec := "fnBagTells", inPlace := ["internal/reflectlite.ValueOf", "internal/reflectlite.Swapper", "(internal/reflectlite.Value).Len"], unfollowed := true, recurses := true, apart := false, narrowed := true }
def FnBagTellsUptoSaid : Prop := fnBagTellsUptoRow.holds Try.pinned (OpenSpec.upto fnBagTellsSpec)

/-- 'laws.FnExactBag', WHERE WHAT IT READS IS OF BULK AT MOST 1048576: true; the input reads as it did. -/
def fnExactBagUptoRow : OpenClaim := { program := "ytgnjncadecelhaa", sum := "ed4409fd2524174bac1c63125879fbee6d4a1d42a89a6185094a90ffc33664e3", func := "loop.example/lib-g01439/laws.FnExactBag", spec := "fnExactBag", inPlace := ["internal/reflectlite.ValueOf", "internal/reflectlite.Swapper", "(internal/reflectlite.Value).Len"], unfollowed := true, recurses := true, apart := false, narrowed := true }
def FnExactBagUptoSaid : Prop := fnExactBagUptoRow.holds Try.pinned (OpenSpec.upto fnExactBagSpec)

/-- 'laws.FnInversionsJoined', WHERE WHAT IT READS IS OF BULK AT MOST 1048576: true; the input reads as it did. -/
def fnInversionsJoinedUptoRow : OpenClaim := { program := "ytgnjncadecelhaa", sum := "ed4409fd2524174bac1c63125879fbee6d4a1d42a89a6185094a90ffc33664e3", func := "loop.example/lib-g01439/laws.FnInversionsJoined", spec := "fnInversionsJoined", inPlace := ["internal/reflectlite.ValueOf", "internal/reflectlite.Swapper", "(internal/reflectlite.Value).Len"], unfollowed := true, recurses := true, apart := false, narrowed := true }
def FnInversionsJoinedUptoSaid : Prop := fnInversionsJoinedUptoRow.holds Try.pinned (OpenSpec.upto fnInversionsJoinedSpec)

/-- 'laws.FnTurnBack', WHERE WHAT IT READS IS OF BULK AT MOST 1048576: true; the input reads as it did. -/
def fnTurnBackUptoRow : OpenClaim := { program := "ytgnjncadecelhaa", sum := "ed4409fd2524174bac1c63125879fbee6d4a1d42a89a6185094a90ffc33664e3", func := "loop.example/lib-g01439/laws.FnTurnBack", spec := "fnTurnBack", inPlace := ["internal/reflectlite.ValueOf", "internal/reflectlite.Swapper", "(internal/reflectlite.Value).Len"], unfollowed := true, recurses := true, apart := false, narrowed := true }
def FnTurnBackUptoSaid : Prop := fnTurnBackUptoRow.holds Try.pinned (OpenSpec.upto fnTurnBackSpec)

/-- 'laws.FnTurnBegin', WHERE WHAT IT READS IS OF BULK AT MOST 1048576: true; the input reads as it did. -/
def fnTurnBeginUptoRow : OpenClaim := { program := "ytgnjncadecelhaa", sum := "ed4409fd2524174bac1c63125879fbee6d4a1d42a89a6185094a90ffc33664e3", func := "loop.example/lib-g01439/laws.FnTurnBegin", spec := "fnTurnBegin", inPlace := ["internal/reflectlite.ValueOf", "internal/reflectlite.Swapper", "(internal/reflectlite.Value).Len"], unfollowed := true, recurses := true, apart := false, narrowed := true }
def FnTurnBeginUptoSaid : Prop := fnTurnBeginUptoRow.holds Try.pinned (OpenSpec.upto fnTurnBeginSpec)

/-- 'laws.FnInversionsRanks', WHERE WHAT IT READS IS OF BULK AT MOST 1048576: true; the input reads as it did. -/
def fnInversionsRanksUptoRow : OpenClaim := { program := "ytgnjncadecelhaa", sum := "ed4409fd2524174bac1c63125879fbee6d4a1d42a89a6185094a90ffc33664e3", func := "loop.example/lib-g01439/laws.FnInversionsRanks", spec := "fnInversionsRanks", inPlace := ["internal/reflectlite.ValueOf", "internal/reflectlite.Swapper", "(internal/reflectlite.Value).Len"], unfollowed := true, recurses := true, apart := false, narrowed := true }
def FnInversionsRanksUptoSaid : Prop := fnInversionsRanksUptoRow.holds Try.pinned (OpenSpec.upto fnInversionsRanksSpec)

/-- 'laws.FnPilesRanks', WHERE WHAT IT READS IS OF BULK AT MOST 1048576: true; the input reads as it did. -/
def fnPilesRanksUptoRow : OpenClaim := { program := "ytgnjncadecelhaa", sum := "ed4409fd2524174bac1c63125879fbee6d4a1d42a89a6185094a90ffc33664e3", func := "loop.example/lib-g01439/laws.FnPilesRanks", spec := "fnPilesRanks", inPlace := ["internal/reflectlite.ValueOf", "internal/reflectlite.Swapper", "(internal/reflectlite.Value).Len"], unfollowed := true, recurses := true, apart := false, narrowed := true }
def FnPilesRanksUptoSaid : Prop := fnPilesRanksUptoRow.holds Try.pinned (OpenSpec.upto fnPilesRanksSpec)

end Rows
end Go.Proofs.Ytgnjncadecelhaa

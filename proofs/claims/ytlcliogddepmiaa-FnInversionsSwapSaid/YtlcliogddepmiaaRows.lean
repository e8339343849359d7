/-
  No cell of these rows narrows 'for every input' (looked for: loops, veiled, ifaces, maps, wideKeys, modest, calm, conditions, laid).
  DERIVED. THE GIVEN ROWS OF THIS SEAT. 12 by the template 'for every input the law returns true; each argument reads behind the call as it read before'; 0 by the template 'total and deterministic' (their statements: YtlcliogddepmiaaTotals.lean).
  GIVEN WITH THE SEED: the statements are not yours to turn. If you find one false, say at which input.
  Laid BY PROGRAM, IN A SANDBOX (cutbox-rows.mjs): the forced cells as the released guide's own fill.sh prints them over the translation 3aa83f2aca82d7a3… (all of the seat's roots in one cut). By AI agents, Wed Nov 11 2026. No macro, syntax, notation, axiom, sorry.
-/
import Derived.Test.YtlcliogddepmiaaChecked
import GoSem.Claim
import GoSem.ClaimJoined
import GoSem.ClaimMapViews
import Derived.JoinedTies
import Derived.KernelRfl
namespace Go.Proofs.Ytlcliogddepmiaa
/- THE CELL 'sum', in the pinned program and in every row, IS THE sha256 OF THE DUMP (.gsa) THAT YtlcliogddepmiaaProg.lean LOADS. Nothing in Lean hashes anything: it is a label: what it is worth is what the hold of that sum in a sandbox is worth. -/
noncomputable def Try.pinned : Pinned := { name := "ytlcliogddepmiaa", sum := "3aa83f2aca82d7a3cda813ff63a7e6beeace5bb6e5becad612ba57a00b2c685b", checked := Try.checked }
namespace Rows
def none {H : Type} : Left H := { results := [], args := [] }

/-- 'laws.FnInversionsMirror': WHATEVER THE INPUT: true; the input reads as it did. -/
def fnInversionsMirrorSpec : ChangeSpec := { name := "fnInversionsMirror", fn := fun _ => fun
  | [d] => { results := [.lit (.bool true)], args := [d] }
  | _ => none }
def fnInversionsMirrorRow : OpenClaim := { program := "ytlcliogddepmiaa", sum := "3aa83f2aca82d7a3cda813ff63a7e6beeace5bb6e5becad612ba57a00b2c685b", func := "loop.example/lib-g01439/laws.FnInversionsMirror", spec := "fnInversionsMirror", inPlace := ["internal/reflectlite.ValueOf", "internal/reflectlite.Swapper", "(internal/reflectlite.Value).Len"], unfollowed := true, recurses := true, apart := false }
def FnInversionsMirrorSaid : Prop := fnInversionsMirrorRow.holds Try.pinned (OpenSpec.ofChange fnInversionsMirrorSpec)

/-- ITS FALSE NEIGHBOUR: 'it returns false'. Refute it at one input. -/
def fnInversionsMirrorWrong : ChangeSpec := { name := "fnInversionsMirror", fn := fun _ => fun
  | [d] => { results := [.lit (.bool false)], args := [d] }
  | _ => none }
def FnInversionsMirrorWrongFalsely : Prop := fnInversionsMirrorRow.holds Try.pinned (OpenSpec.ofChange fnInversionsMirrorWrong)

/-- 'laws.FnInversionsSwap': WHATEVER THE INPUT: true; the input reads as it did. -/
def fnInversionsSwapSpec : ChangeSpec := { name := "fnInversionsSwap", fn := fun _ => fun
  | [d1, d2] => { results := [.lit (.bool true)], args := [d1, d2] }
  | _ => none }
def fnInversionsSwapRow : OpenClaim := { program := "ytlcliogddepmiaa", sum := "3aa83f2aca82d7a3cda813ff63a7e6beeace5bb6e5becad612ba57a00b2c685b", func := "loop.example/lib-g01439/laws.FnInversionsSwap", spec := "fnInversionsSwap", inPlace := ["internal/reflectlite.ValueOf", "internal/reflectlite.Swapper", "(internal/reflectlite.Value).Len"], unfollowed := true, recurses := true, apart := false }
def FnInversionsSwapSaid : Prop := fnInversionsSwapRow.holds Try.pinned (OpenSpec.ofChange fnInversionsSwapSpec)

/-- ITS FALSE NEIGHBOUR: 'it returns false'. Refute it at one input. -/
def fnInversionsSwapWrong : ChangeSpec := { name := "fnInversionsSwap", fn := fun _ => fun
  | [d1, d2] => { results := [.lit (.bool false)], args := [d1, d2] }
  | _ => none }
def FnInversionsSwapWrongFalsely : Prop := fnInversionsSwapRow.holds Try.pinned (OpenSpec.ofChange fnInversionsSwapWrong)

/-- 'laws.FnInversionsNone': WHATEVER THE INPUT: true; the input reads as it did. -/
def fnInversionsNoneSpec : ChangeSpec := { name := "fnInversionsNone", fn := fun _ => fun
  | [d] => { results := [.lit (.bool true)], args := [d] }
  | _ => none }
def fnInversionsNoneRow : OpenClaim := { program := "ytlcliogddepmiaa", sum := "3aa83f2aca82d7a3cda813ff63a7e6beeace5bb6e5becad612ba57a00b2c685b", func := "loop.example/lib-g01439/laws.FnInversionsNone", spec := "fnInversionsNone", inPlace := ["internal/reflectlite.ValueOf", "internal/reflectlite.Swapper", "(internal/reflectlite.Value).Len"], unfollowed := true, recurses := true, apart := false }
def FnInversionsNoneSaid : Prop := fnInversionsNoneRow.holds Try.pinned (OpenSpec.ofChange fnInversionsNoneSpec)

/-- ITS FALSE NEIGHBOUR: 'it returns false'. Refute it at one input. -/
def fnInversionsNoneWrong : ChangeSpec := { name := "fnInversionsNone", fn := fun _ => fun
  | [d] => { results := [.lit (.bool false)], args := [d] }
  | _ => none }
def FnInversionsNoneWrongFalsely : Prop := fnInversionsNoneRow.holds Try.pinned (OpenSpec.ofChange fnInversionsNoneWrong)

/-- 'laws.FnPilesJoined': WHATEVER THE INPUT: true; the input reads as it did. -/
def fnPilesJoinedSpec : ChangeSpec := { name := "fnPilesJoined", fn := fun _ => fun
  | [d1, d2] => { results := [.lit (.bool true)], args := [d1, d2] }
  | _ => none }
def fnPilesJoinedRow : OpenClaim := { program := "ytlcliogddepmiaa", sum := "3aa83f2aca82d7a3cda813ff63a7e6beeace5bb6e5becad612ba57a00b2c685b", func := "loop.example/lib-g01439/laws.FnPilesJoined", spec := "fnPilesJoined", inPlace := ["internal/reflectlite.ValueOf", "internal/reflectlite.Swapper", "(internal/reflectlite.Value).Len"], unfollowed := true, recurses := true, apart := false }
def FnPilesJoinedSaid : Prop := fnPilesJoinedRow.holds Try.pinned (OpenSpec.ofChange fnPilesJoinedSpec)

/-- ITS FALSE NEIGHBOUR: 'it returns false'. Refute it at one input. -/
def fnPilesJoinedWrong : ChangeSpec := { name := "fnPilesJoined", fn := fun _ => fun
  | [d1, d2] => { results := [.lit (.bool false)], args := [d1, d2] }
  | _ => none }
def FnPilesJoinedWrongFalsely : Prop := fnPilesJoinedRow.holds Try.pinned (OpenSpec.ofChange fnPilesJoinedWrong)

/-- 'laws.FnPilesMore': WHATEVER THE INPUT: true; the input reads as it did. -/
def fnPilesMoreSpec : ChangeSpec := { name := "fnPilesMore", fn := fun _ => fun
  | [d1, d2] => { results := [.lit (.bool true)], args := [d1, d2] }
  | _ => none }
def fnPilesMoreRow : OpenClaim := { program := "ytlcliogddepmiaa", sum := "3aa83f2aca82d7a3cda813ff63a7e6beeace5bb6e5becad612ba57a00b2c685b", func := "loop.example/lib-g01439/laws.FnPilesMore", spec := "fnPilesMore", inPlace := ["internal/reflectlite.ValueOf", "internal/reflectlite.Swapper", "(internal/reflectlite.Value).Len"], unfollowed := true, recurses := true, apart := false }
def FnPilesMoreSaid : Prop := fnPilesMoreRow.holds Try.pinned (OpenSpec.ofChange fnPilesMoreSpec)

/-- ITS FALSE NEIGHBOUR: 'it returns false'. Refute it at one input. -/
def fnPilesMoreWrong : ChangeSpec := { name := "fnPilesMore", fn := fun _ => fun
  | [d1, d2] => { results := [.lit (.bool false)], args := [d1, d2] }
  | _ => none }
def FnPilesMoreWrongFalsely : Prop := fnPilesMoreRow.holds Try.pinned (OpenSpec.ofChange fnPilesMoreWrong)

/-- 'laws.FnPilesMirror': WHATEVER THE INPUT: true; the input reads as it did. -/
def fnPilesMirrorSpec : ChangeSpec := { name := "fnPilesMirror", fn := fun _ => fun
  | [d] => { results := [.lit (.bool true)], args := [d] }
  | _ => none }
def fnPilesMirrorRow : OpenClaim := { program := "ytlcliogddepmiaa", sum := "3aa83f2aca82d7a3cda813ff63a7e6beeace5bb6e5becad612ba57a00b2c685b", func := "loop.example/lib-g01439/laws.FnPilesMirror", spec := "fnPilesMirror", inPlace := ["internal/reflectlite.ValueOf", "internal/reflectlite.Swapper", "(internal/reflectlite.Value).Len"], unfollowed := true, recurses := true, apart := false }
def FnPilesMirrorSaid : Prop := fnPilesMirrorRow.holds Try.pinned (OpenSpec.ofChange fnPilesMirrorSpec)

/-- ITS FALSE NEIGHBOUR: 'it returns false'. Refute it at one input. -/
def fnPilesMirrorWrong : ChangeSpec := { name := "fnPilesMirror", fn := fun _ => fun
  | [d] => { results := [.lit (.bool false)], args := [d] }
  | _ => none }
def FnPilesMirrorWrongFalsely : Prop := fnPilesMirrorRow.holds Try.pinned (OpenSpec.ofChange fnPilesMirrorWrong)

/-- 'laws.FnPilesProduct': WHATEVER THE INPUT: true; the input reads as it did. -/
def fnPilesProductSpec : ChangeSpec := { name := "fnPilesProduct", fn := fun _ => fun
  | [d] => { results := [.lit (.bool true)], args := [d] }
  | _ => none }
def fnPilesProductRow : OpenClaim := { program := "ytlcliogddepmiaa", sum := "3aa83f2aca82d7a3cda813ff63a7e6beeace5bb6e5becad612ba57a00b2c685b", func := "loop.example/lib-g01439/laws.FnPilesProduct", spec := "fnPilesProduct", inPlace := ["internal/reflectlite.ValueOf", "internal/reflectlite.Swapper", "(internal/reflectlite.Value).Len"], unfollowed := true, recurses := true, apart := false }
def FnPilesProductSaid : Prop := fnPilesProductRow.holds Try.pinned (OpenSpec.ofChange fnPilesProductSpec)

/-- ITS FALSE NEIGHBOUR: 'it returns false'. Refute it at one input. -/
def fnPilesProductWrong : ChangeSpec := { name := "fnPilesProduct", fn := fun _ => fun
  | [d] => { results := [.lit (.bool false)], args := [d] }
  | _ => none }
def FnPilesProductWrongFalsely : Prop := fnPilesProductRow.holds Try.pinned (OpenSpec.ofChange fnPilesProductWrong)

/-- 'laws.FnPilesRise': WHATEVER THE INPUT: true; the input reads as it did. -/
def fnPilesRiseSpec : ChangeSpec := { name := "fnPilesRise", fn := fun _ => fun
  | [d] => { results := [.lit (.bool true)], args := [d] }
  | _ => none }
def fnPilesRiseRow : OpenClaim := { program := "ytlcliogddepmiaa", sum := "3aa83f2aca82d7a3cda813ff63a7e6beeace5bb6e5becad612ba57a00b2c685b", func := "loop.example/lib-g01439/laws.FnPilesRise", spec := "fnPilesRise", inPlace := ["internal/reflectlite.ValueOf", "internal/reflectlite.Swapper", "(internal/reflectlite.Value).Len"], unfollowed := true, recurses := true, apart := false }
def FnPilesRiseSaid : Prop := fnPilesRiseRow.holds Try.pinned (OpenSpec.ofChange fnPilesRiseSpec)

/-- ITS FALSE NEIGHBOUR: 'it returns false'. Refute it at one input. -/
def fnPilesRiseWrong : ChangeSpec := { name := "fnPilesRise", fn := fun _ => fun
  | [d] => { results := [.lit (.bool false)], args := [d] }
  | _ => none }
def FnPilesRiseWrongFalsely : Prop := fnPilesRiseRow.holds Try.pinned (OpenSpec.ofChange fnPilesRiseWrong)

/-- 'laws.FnPilesSorted': WHATEVER THE INPUT: true; the input reads as it did. -/
def fnPilesSortedSpec : ChangeSpec := { name := "fnPilesSorted", fn := fun _ => fun
  | [d] => { results := [.lit (.bool true)], args := [d] }
  | _ => none }
def fnPilesSortedRow : OpenClaim := { program := "ytlcliogddepmiaa", sum := "3aa83f2aca82d7a3cda813ff63a7e6beeace5bb6e5becad612ba57a00b2c685b", func := "loop.example/lib-g01439/laws.FnPilesSorted", spec := "fnPilesSorted", inPlace := ["internal/reflectlite.ValueOf", "internal/reflectlite.Swapper", "(internal/reflectlite.Value).Len"], unfollowed := true, recurses := true, apart := false }
def FnPilesSortedSaid : Prop := fnPilesSortedRow.holds Try.pinned (OpenSpec.ofChange fnPilesSortedSpec)

/-- ITS FALSE NEIGHBOUR: 'it returns false'. Refute it at one input. -/
def fnPilesSortedWrong : ChangeSpec := { name := "fnPilesSorted", fn := fun _ => fun
  | [d] => { results := [.lit (.bool false)], args := [d] }
  | _ => none }
def FnPilesSortedWrongFalsely : Prop := fnPilesSortedRow.holds Try.pinned (OpenSpec.ofChange fnPilesSortedWrong)

/-- 'laws.FnKthMoved': WHATEVER THE INPUT: true; the input reads as it did. -/
def fnKthMovedSpec : ChangeSpec := { name := "fnKthMoved", fn := fun _ => fun
  | [d1, d2, d3] => { results := [.lit (.bool true)], args := [d1, d2, d3] }
  | _ => none }
def fnKthMovedRow : OpenClaim := { program := "ytlcliogddepmiaa", sum := "3aa83f2aca82d7a3cda813ff63a7e6beeace5bb6e5becad612ba57a00b2c685b", func := "loop.example/lib-g01439/laws.FnKthMoved", spec := "fnKthMoved", inPlace := ["internal/reflectlite.ValueOf", "internal/reflectlite.Swapper", "(internal/reflectlite.Value).Len"], unfollowed := true, recurses := true, apart := false }
def FnKthMovedSaid : Prop := fnKthMovedRow.holds Try.pinned (OpenSpec.ofChange fnKthMovedSpec)

/-- ITS FALSE NEIGHBOUR: 'it returns false'. Refute it at one input. -/
def fnKthMovedWrong : ChangeSpec := { name := "fnKthMoved", fn := fun _ => fun
  | [d1, d2, d3] => { results := [.lit (.bool false)], args := [d1, d2, d3] }
  | _ => none }
def FnKthMovedWrongFalsely : Prop := fnKthMovedRow.holds Try.pinned (OpenSpec.ofChange fnKthMovedWrong)

/-- 'laws.FnKthOpposite': WHATEVER THE INPUT: true; the input reads as it did. -/
def fnKthOppositeSpec : ChangeSpec := { name := "fnKthOpposite", fn := fun _ => fun
  | [d1, d2] => { results := [.lit (.bool true)], args := [d1, d2] }
  | _ => none }
def fnKthOppositeRow : OpenClaim := { program := "ytlcliogddepmiaa", sum := "3aa83f2aca82d7a3cda813ff63a7e6beeace5bb6e5becad612ba57a00b2c685b", func := "loop.example/lib-g01439/laws.FnKthOpposite", spec := "fnKthOpposite", inPlace := ["internal/reflectlite.ValueOf", "internal/reflectlite.Swapper", "(internal/reflectlite.Value).Len"], unfollowed := true, recurses := true, apart := false }
def FnKthOppositeSaid : Prop := fnKthOppositeRow.holds Try.pinned (OpenSpec.ofChange fnKthOppositeSpec)

/-- ITS FALSE NEIGHBOUR: 'it returns false'. Refute it at one input. -/
def fnKthOppositeWrong : ChangeSpec := { name := "fnKthOpposite", fn := fun _ => fun
  | [d1, d2] => { results := [.lit (.bool false)], args := [d1, d2] }
  | _ => none }
def FnKthOppositeWrongFalsely : Prop := fnKthOppositeRow.holds Try.pinned (OpenSpec.ofChange fnKthOppositeWrong)

/-- 'laws.FnKthSorted': WHATEVER THE INPUT: true; the input reads as it did. -/
def fnKthSortedSpec : ChangeSpec := { name := "fnKthSorted", fn := fun _ => fun
  | [d1, d2] => { results := [.lit (.bool true)], args := [d1, d2] }
  | _ => none }
def fnKthSortedRow : OpenClaim := { program := "ytlcliogddepmiaa", sum := "3aa83f2aca82d7a3cda813ff63a7e6beeace5bb6e5becad612ba57a00b2c685b", func := "loop.example/lib-g01439/laws.FnKthSorted", spec := "fnKthSorted", inPlace := ["internal/reflectlite.ValueOf", "internal/reflectlite.Swapper", "(internal/reflectlite.Value).Len"], unfollowed := true, recurses := true, apart := false }
def FnKthSortedSaid : Prop := fnKthSortedRow.holds Try.pinned (OpenSpec.ofChange fnKthSortedSpec)

/-- ITS FALSE NEIGHBOUR: 'it returns false'. Refute it at one input. -/
def fnKthSortedWrong : ChangeSpec := { name := "fnKthSorted", fn := fun _ => fun
  | [d1, d2] => { results := [.lit (.bool false)], args := [d1, d2] }
  | _ => none }
def FnKthSortedWrongFalsely : Prop := fnKthSortedRow.holds Try.pinned (OpenSpec.ofChange fnKthSortedWrong)

/- THE SECOND FORM. 'bulk': how many values and letters a reading holds, each counted each time it is reached (what is shared counts as often as it is met; a slice's spare places count too). A statement '..UptoSaid' is the law's where the arguments, and the package variables that the reading takes, are together of bulk at most 1048576: NARROWER than '..Said'. Prove '..Said' where nothing that the law and all that it calls make is longer than what came in: it says more and counts as full. Else prove '..UptoSaid'. A law counts once. -/
mutual
def uptoBulk {H : Type} : DataW H → Nat
  | .lit (.string bytes) => bytes.length + 1
  | .lit _ => 1
  | .nil => 1
  | .ptr d => uptoBulk d + 1
  | .slice elems spare => uptoBulkAll elems + uptoBulkAll spare + 1
  | .agg parts => uptoBulkAll parts + 1
  | .iface _ d => uptoBulk d + 1
  | .map entries => uptoBulkEntries entries + 1
  | .held _ => 1
def uptoBulkAll {H : Type} : List (DataW H) → Nat
  | [] => 0
  | d :: r => uptoBulk d + uptoBulkAll r
def uptoBulkEntries {H : Type} : List (Lit × DataW H) → Nat
  | [] => 0
  | x :: r => uptoBulkEntry x + uptoBulkEntries r
def uptoBulkEntry {H : Type} : Lit × DataW H → Nat
  | (.string bytes, d) => bytes.length + uptoBulk d + 1
  | (_, d) => uptoBulk d + 1
 end
def uptoSmall : (H : Type) → List (DataW H) → Bool := fun _ ds => decide (uptoBulkAll ds ≤ 1048576)
def OpenSpec.upto (s : _root_.Go.ChangeSpec) : _root_.Go.OpenSpec := { _root_.Go.OpenSpec.ofChange s with cond := some uptoSmall }

/-- 'laws.FnInversionsMirror', WHERE WHAT IT READS IS OF BULK AT MOST 1048576: true; the input reads as it did. -/
def fnInversionsMirrorUptoRow : OpenClaim := { program := "ytlcliogddepmiaa", sum := "3aa83f2aca82d7a3cda813ff63a7e6beeace5bb6e5becad612ba57a00b2c685b", func := "loop.example/lib-g01439/laws.FnInversionsMirror", spec := "fnInversionsMirror", inPlace := ["internal/reflectlite.ValueOf", "internal/reflectlite.Swapper", "(internal/reflectlite.Value).Len"], unfollowed := true, recurses := true, apart := false, narrowed := true }
def FnInversionsMirrorUptoSaid : Prop := fnInversionsMirrorUptoRow.holds Try.pinned (OpenSpec.upto fnInversionsMirrorSpec)

/-- 'laws.FnInversionsSwap', WHERE WHAT IT READS IS OF BULK AT MOST 1048576: true; the input reads as it did. -/
def fnInversionsSwapUptoRow : OpenClaim := { program := "ytlcliogddepmiaa", sum := "3aa83f2aca82d7a3cda813ff63a7e6beeace5bb6e5becad612ba57a00b2c685b", func := "loop.example/lib-g01439/laws.FnInversionsSwap", spec := "fnInversionsSwap", inPlace := ["internal/reflectlite.ValueOf", "internal/reflectlite.Swapper", "(internal/reflectlite.Value).Len"], unfollowed := true, recurses := true, apart := false, narrowed := true }
def FnInversionsSwapUptoSaid : Prop := fnInversionsSwapUptoRow.holds Try.pinned (OpenSpec.upto fnInversionsSwapSpec)

/-- 'laws.FnInversionsNone', WHERE WHAT IT READS IS OF BULK AT MOST 1048576: true; the input reads as it did. -/
def fnInversionsNoneUptoRow : OpenClaim := { program := "ytlcliogddepmiaa", sum := "3aa83f2aca82d7a3cda813ff63a7e6beeace5bb6e5becad612ba57a00b2c685b", func := "loop.example/lib-g01439/laws.FnInversionsNone", spec := "fnInversionsNone", inPlace := ["internal/reflectlite.ValueOf", "internal/reflectlite.Swapper", "(internal/reflectlite.Value).Len"], unfollowed := true, recurses := true, apart := false, narrowed := true }
def FnInversionsNoneUptoSaid : Prop := fnInversionsNoneUptoRow.holds Try.pinned (OpenSpec.upto fnInversionsNoneSpec)

/-- 'laws.FnPilesJoined', WHERE WHAT IT READS IS OF BULK AT MOST 1048576: true; the input reads as it did. -/
def fnPilesJoinedUptoRow : OpenClaim := { program := "ytlcliogddepmiaa", sum := "3aa83f2aca82d7a3cda813ff63a7e6beeace5bb6e5becad612ba57a00b2c685b", func := "loop.example/lib-g01439/laws.FnPilesJoined", spec := "fnPilesJoined", inPlace := ["internal/reflectlite.ValueOf", "internal/reflectlite.Swapper", "(internal/reflectlite.Value).Len"], unfollowed := true, recurses := true, apart := false, narrowed := true }
def FnPilesJoinedUptoSaid : Prop := fnPilesJoinedUptoRow.holds Try.pinned (OpenSpec.upto fnPilesJoinedSpec)

/-- 'laws.FnPilesMore', WHERE WHAT IT READS IS OF BULK AT MOST 1048576: true; the input reads as it did. -/
def fnPilesMoreUptoRow : OpenClaim := { program := "ytlcliogddepmiaa", sum := "3aa83f2aca82d7a3cda813ff63a7e6beeace5bb6e5becad612ba57a00b2c685b", func := "loop.example/lib-g01439/laws.FnPilesMore", spec := "fnPilesMore", inPlace := ["internal/reflectlite.ValueOf", "internal/reflectlite.Swapper", "(internal/reflectlite.Value).Len"], unfollowed := true, recurses := true, apart := false, narrowed := true }
def FnPilesMoreUptoSaid : Prop := fnPilesMoreUptoRow.holds Try.pinned (OpenSpec.upto fnPilesMoreSpec)

/-- 'laws.FnPilesMirror', WHERE WHAT IT READS IS OF BULK AT MOST 1048576: true; the input reads as it did. -/
def fnPilesMirrorUptoRow : OpenClaim := { program := "ytlcliogddepmiaa", sum := "3aa83f2aca82d7a3cda813ff63a7e6beeace5bb6e5becad612ba57a00b2c685b", func := "loop.example/lib-g01439/laws.FnPilesMirror", spec := "fnPilesMirror", inPlace := ["internal/reflectlite.ValueOf", "internal/reflectlite.Swapper", "(internal/reflectlite.Value).Len"], unfollowed := true, recurses := true, apart := false, narrowed := true }
def FnPilesMirrorUptoSaid : Prop := fnPilesMirrorUptoRow.holds Try.pinned (OpenSpec.upto fnPilesMirrorSpec)

/-- 'laws.FnPilesProduct', WHERE WHAT IT READS IS OF BULK AT MOST 1048576: true; the input reads as it did. -/
def fnPilesProductUptoRow : OpenClaim := { program := "ytlcliogddepmiaa", sum := "3aa83f2aca82d7a3cda813ff63a7e6beeace5bb6e5becad612ba57a00b2c685b", func := "loop.example/lib-g01439/laws.FnPilesProduct", spec := "fnPilesProduct", inPlace := ["internal/reflectlite.ValueOf", "internal/reflectlite.Swapper", "(internal/reflectlite.Value).Len"], unfollowed := true, recurses := true, apart := false, narrowed := true }
def FnPilesProductUptoSaid : Prop := fnPilesProductUptoRow.holds Try.pinned (OpenSpec.upto fnPilesProductSpec)

/-- 'laws.FnPilesRise', WHERE WHAT IT READS IS OF BULK AT MOST 1048576: true; the input reads as it did. -/
def fnPilesRiseUptoRow : OpenClaim := { program := "ytlcliogddepmiaa", sum := "3aa83f2aca82d7a3cda813ff63a7e6beeace5bb6e5becad612ba57a00b2c685b", func := "loop.example/lib-g01439/laws.FnPilesRise", spec := "fnPilesRise", inPlace := ["internal/reflectlite.ValueOf", "internal/reflectlite.Swapper", "(internal/reflectlite.Value).Len"], unfollowed := true, recurses := true, apart := false, narrowed := true }
def FnPilesRiseUptoSaid : Prop := fnPilesRiseUptoRow.holds Try.pinned (OpenSpec.upto fnPilesRiseSpec)

/-- 'laws.FnPilesSorted', WHERE WHAT IT READS IS OF BULK AT MOST 1048576: true; the input reads as it did. -/
def fnPilesSortedUptoRow : OpenClaim := { program := "ytlcliogddepmiaa", sum := "3aa83f2aca82d7a3cda813ff63a7e6beeace5bb6e5becad612ba57a00b2c685b", func := "loop.example/lib-g01439/laws.FnPilesSorted", spec := "fnPilesSorted", inPlace := ["internal/reflectlite.ValueOf", "internal/reflectlite.Swapper", "(internal/reflectlite.Value).Len"], unfollowed := true, recurses := true, apart := false, narrowed := true }
def FnPilesSortedUptoSaid : Prop := fnPilesSortedUptoRow.holds Try.pinned (OpenSpec.upto fnPilesSortedSpec)

/-- 'laws.FnKthMoved', WHERE WHAT IT READS IS OF BULK AT MOST 1048576: true; the input reads as it did. -/
def fnKthMovedUptoRow : OpenClaim := { program := "ytlcliogddepmiaa", sum := "3aa83f2aca82d7a3cda813ff63a7e6beeace5bb6e5becad612ba57a00b2c685b", func := "loop.example/lib-g01439/laws.FnKthMoved", spec := "fnKthMoved", inPlace := ["internal/reflectlite.ValueOf", "internal/reflectlite.Swapper", "(internal/reflectlite.Value).Len"], unfollowed := true, recurses := true, apart := false, narrowed := true }
def FnKthMovedUptoSaid : Prop := fnKthMovedUptoRow.holds Try.pinned (OpenSpec.upto fnKthMovedSpec)

/-- 'laws.FnKthOpposite', WHERE WHAT IT READS IS OF BULK AT MOST 1048576: true; the input reads as it did. -/
def fnKthOppositeUptoRow : OpenClaim := { program := "ytlcliogddepmiaa", sum := "3aa83f2aca82d7a3cda813ff63a7e6beeace5bb6e5becad612ba57a00b2c685b", func := "loop.example/lib-g01439/laws.FnKthOpposite", spec := "fnKthOpposite", inPlace := ["internal/reflectlite.ValueOf", "internal/reflectlite.Swapper", "(internal/reflectlite.Value).Len"], unfollowed := true, recurses := true, apart := false, narrowed := true }
def FnKthOppositeUptoSaid : Prop := fnKthOppositeUptoRow.holds Try.pinned (OpenSpec.upto fnKthOppositeSpec)

/-- 'laws.FnKthSorted', WHERE WHAT IT READS IS OF BULK AT MOST 1048576: true; the input reads as it did. -/
def fnKthSortedUptoRow : OpenClaim := { program := "ytlcliogddepmiaa", sum := "3aa83f2aca82d7a3cda813ff63a7e6beeace5bb6e5becad612ba57a00b2c685b", func := "loop.example/lib-g01439/laws.FnKthSorted", spec := "fnKthSorted", inPlace := ["internal/reflectlite.ValueOf", "internal/reflectlite.Swapper", "(internal/reflectlite.Value).Len"], unfollowed := true, recurses := true, apart := false, narrowed := true }
def FnKthSortedUptoSaid : Prop := fnKthSortedUptoRow.holds Try.pinned (OpenSpec.upto fnKthSortedSpec)

end Rows
end Go.Proofs.Ytlcliogddepmiaa

/-
  No cell of these rows narrows 'for every input' (looked for: loops, veiled, ifaces, maps, wideKeys, modest, calm, conditions, laid).
  DERIVED. THE GIVEN ROWS OF THIS SEAT. 9 by the template 'for every input the law returns true; each argument reads behind the call as it read before'; 0 by the template 'total and deterministic' (their statements: YtpkdjdofbedncaaTotals.lean).
  GIVEN WITH THE SEED: the statements are not yours to turn. If you find one false, say at which input.
  Laid BY PROGRAM, IN A SANDBOX (cutbox-rows.mjs): the forced cells as the released guide's own fill.sh prints them over the translation c8466f176dd03338… (all of the seat's roots in one cut). By AI agents, Wed Nov 11 2026. No macro, syntax, notation, axiom, sorry.
-/
import Derived.Test.YtpkdjdofbedncaaChecked
import GoSem.Claim
import GoSem.ClaimJoined
import GoSem.ClaimMapViews
import Derived.JoinedTies
import Derived.KernelRfl
namespace Go.Proofs.Ytpkdjdofbedncaa
/- THE CELL 'sum', in the pinned program and in every row, IS THE sha256 OF THE DUMP (.gsa) THAT YtpkdjdofbedncaaProg.lean LOADS. Nothing in Lean hashes anything: it is a label: what it is worth is what the hold of that sum in a sandbox is worth. -/
noncomputable def Try.pinned : Pinned := { name := "ytpkdjdofbedncaa", sum := "c8466f176dd03338f788ca2b77f3456e05701b2ff99a7fd2b3defe7794ea910b", checked := Try.checked }
namespace Rows
def none {H : Type} : Left H := { results := [], args := [] }

/-- 'laws.FnCutJoined': WHATEVER THE INPUT: true; the input reads as it did. -/
def fnCutJoinedSpec : ChangeSpec := { name := "fnCutJoined", fn := fun _ => fun
  | [d1, d2, d3] => { results := [.lit (.bool true)], args := [d1, d2, d3] }
  | _ => none }
def fnCutJoinedRow : OpenClaim := { program := "ytpkdjdofbedncaa", sum := "c8466f176dd03338f788ca2b77f3456e05701b2ff99a7fd2b3defe7794ea910b", func := "loop.example/lib-g01439/laws.FnCutJoined", spec := "fnCutJoined", inPlace := ["internal/reflectlite.ValueOf", "internal/reflectlite.Swapper", "(internal/reflectlite.Value).Len"], unfollowed := true, recurses := true, apart := false }
def FnCutJoinedSaid : Prop := fnCutJoinedRow.holds Try.pinned (OpenSpec.ofChange fnCutJoinedSpec)

/-- ITS FALSE NEIGHBOUR: 'it returns false'. Refute it at one input. -/
def fnCutJoinedWrong : ChangeSpec := { name := "fnCutJoined", fn := fun _ => fun
  | [d1, d2, d3] => { results := [.lit (.bool false)], args := [d1, d2, d3] }
  | _ => none }
def FnCutJoinedWrongFalsely : Prop := fnCutJoinedRow.holds Try.pinned (OpenSpec.ofChange fnCutJoinedWrong)

/-- 'laws.FnExactMerge': WHATEVER THE INPUT: true; the input reads as it did. -/
def fnExactMergeSpec : ChangeSpec := { name := "fnExactMerge", fn := fun _ => fun
  | [d] => { results := [.lit (.bool true)], args := [d] }
  | _ => none }
def fnExactMergeRow : OpenClaim := { program := "ytpkdjdofbedncaa", sum := "c8466f176dd03338f788ca2b77f3456e05701b2ff99a7fd2b3defe7794ea910b", func := "loop.example/lib-g01439/laws.FnExactMerge", spec := "fnExactMerge", inPlace := ["internal/reflectlite.ValueOf", "internal/reflectlite.Swapper", "(internal/reflectlite.Value).Len"], unfollowed := true, recurses := true, apart := false }
def FnExactMergeSaid : Prop := fnExactMergeRow.holds Try.pinned (OpenSpec.ofChange fnExactMergeSpec)

/-- ITS FALSE NEIGHBOUR: 'it returns false'. Refute it at one input. -/
def fnExactMergeWrong : ChangeSpec := { name := "fnExactMerge", fn := fun _ => fun
  | [d] => { results := [.lit (.bool false)], args := [d] }
  | _ => none }
def FnExactMergeWrongFalsely : Prop := fnExactMergeRow.holds Try.pinned (OpenSpec.ofChange fnExactMergeWrong)

/-- 'laws.FnMergeJoined': WHATEVER THE INPUT: true; the input reads as it did. -/
def fnMergeJoinedSpec : ChangeSpec := { name := "fnMergeJoined", fn := fun _ => fun
  | [d1, d2] => { results := [.lit (.bool true)], args := [d1, d2] }
  | _ => none }
def fnMergeJoinedRow : OpenClaim := { program := "ytpkdjdofbedncaa", sum := "c8466f176dd03338f788ca2b77f3456e05701b2ff99a7fd2b3defe7794ea910b", func := "loop.example/lib-g01439/laws.FnMergeJoined", spec := "fnMergeJoined", inPlace := ["internal/reflectlite.ValueOf", "internal/reflectlite.Swapper", "(internal/reflectlite.Value).Len"], unfollowed := true, recurses := true, apart := false }
def FnMergeJoinedSaid : Prop := fnMergeJoinedRow.holds Try.pinned (OpenSpec.ofChange fnMergeJoinedSpec)

/-- ITS FALSE NEIGHBOUR: 'it returns false'. Refute it at one input. -/
def fnMergeJoinedWrong : ChangeSpec := { name := "fnMergeJoined", fn := fun _ => fun
  | [d1, d2] => { results := [.lit (.bool false)], args := [d1, d2] }
  | _ => none }
def FnMergeJoinedWrongFalsely : Prop := fnMergeJoinedRow.holds Try.pinned (OpenSpec.ofChange fnMergeJoinedWrong)

/-- 'laws.FnMergeAgain': WHATEVER THE INPUT: true; the input reads as it did. -/
def fnMergeAgainSpec : ChangeSpec := { name := "fnMergeAgain", fn := fun _ => fun
  | [d] => { results := [.lit (.bool true)], args := [d] }
  | _ => none }
def fnMergeAgainRow : OpenClaim := { program := "ytpkdjdofbedncaa", sum := "c8466f176dd03338f788ca2b77f3456e05701b2ff99a7fd2b3defe7794ea910b", func := "loop.example/lib-g01439/laws.FnMergeAgain", spec := "fnMergeAgain", inPlace := ["internal/reflectlite.ValueOf", "internal/reflectlite.Swapper", "(internal/reflectlite.Value).Len"], unfollowed := true, recurses := true, apart := false }
def FnMergeAgainSaid : Prop := fnMergeAgainRow.holds Try.pinned (OpenSpec.ofChange fnMergeAgainSpec)

/-- ITS FALSE NEIGHBOUR: 'it returns false'. Refute it at one input. -/
def fnMergeAgainWrong : ChangeSpec := { name := "fnMergeAgain", fn := fun _ => fun
  | [d] => { results := [.lit (.bool false)], args := [d] }
  | _ => none }
def FnMergeAgainWrongFalsely : Prop := fnMergeAgainRow.holds Try.pinned (OpenSpec.ofChange fnMergeAgainWrong)

/-- 'laws.FnMergeApart': WHATEVER THE INPUT: true; the input reads as it did. -/
def fnMergeApartSpec : ChangeSpec := { name := "fnMergeApart", fn := fun _ => fun
  | [d] => { results := [.lit (.bool true)], args := [d] }
  | _ => none }
def fnMergeApartRow : OpenClaim := { program := "ytpkdjdofbedncaa", sum := "c8466f176dd03338f788ca2b77f3456e05701b2ff99a7fd2b3defe7794ea910b", func := "loop.example/lib-g01439/laws.FnMergeApart", spec := "fnMergeApart", inPlace := ["internal/reflectlite.ValueOf", "internal/reflectlite.Swapper", "(internal/reflectlite.Value).Len"], unfollowed := true, recurses := true, apart := false }
def FnMergeApartSaid : Prop := fnMergeApartRow.holds Try.pinned (OpenSpec.ofChange fnMergeApartSpec)

/-- ITS FALSE NEIGHBOUR: 'it returns false'. Refute it at one input. -/
def fnMergeApartWrong : ChangeSpec := { name := "fnMergeApart", fn := fun _ => fun
  | [d] => { results := [.lit (.bool false)], args := [d] }
  | _ => none }
def FnMergeApartWrongFalsely : Prop := fnMergeApartRow.holds Try.pinned (OpenSpec.ofChange fnMergeApartWrong)

/-- 'laws.FnMergeCovers': WHATEVER THE INPUT: true; the input reads as it did. -/
def fnMergeCoversSpec : ChangeSpec := { name := "fnMergeCovers", fn := fun _ => fun
  | [d1, d2] => { results := [.lit (.bool true)], args := [d1, d2] }
  | _ => none }
def fnMergeCoversRow : OpenClaim := { program := "ytpkdjdofbedncaa", sum := "c8466f176dd03338f788ca2b77f3456e05701b2ff99a7fd2b3defe7794ea910b", func := "loop.example/lib-g01439/laws.FnMergeCovers", spec := "fnMergeCovers", inPlace := ["internal/reflectlite.ValueOf", "internal/reflectlite.Swapper", "(internal/reflectlite.Value).Len"], unfollowed := true, recurses := true, apart := false }
def FnMergeCoversSaid : Prop := fnMergeCoversRow.holds Try.pinned (OpenSpec.ofChange fnMergeCoversSpec)

/-- ITS FALSE NEIGHBOUR: 'it returns false'. Refute it at one input. -/
def fnMergeCoversWrong : ChangeSpec := { name := "fnMergeCovers", fn := fun _ => fun
  | [d1, d2] => { results := [.lit (.bool false)], args := [d1, d2] }
  | _ => none }
def FnMergeCoversWrongFalsely : Prop := fnMergeCoversRow.holds Try.pinned (OpenSpec.ofChange fnMergeCoversWrong)

/-- 'laws.FnMergeCount': WHATEVER THE INPUT: true; the input reads as it did. -/
def fnMergeCountSpec : ChangeSpec := { name := "fnMergeCount", fn := fun _ => fun
  | [d] => { results := [.lit (.bool true)], args := [d] }
  | _ => none }
def fnMergeCountRow : OpenClaim := { program := "ytpkdjdofbedncaa", sum := "c8466f176dd03338f788ca2b77f3456e05701b2ff99a7fd2b3defe7794ea910b", func := "loop.example/lib-g01439/laws.FnMergeCount", spec := "fnMergeCount", inPlace := ["internal/reflectlite.ValueOf", "internal/reflectlite.Swapper", "(internal/reflectlite.Value).Len"], unfollowed := true, recurses := true, apart := false }
def FnMergeCountSaid : Prop := fnMergeCountRow.holds Try.pinned (OpenSpec.ofChange fnMergeCountSpec)

/-- ITS FALSE NEIGHBOUR: 'it returns false'. Refute it at one input. -/
def fnMergeCountWrong : ChangeSpec := { name := "fnMergeCount", fn := fun _ => fun
  | [d] => { results := [.lit (.bool false)], args := [d] }
  | _ => none }
def FnMergeCountWrongFalsely : Prop := fnMergeCountRow.holds Try.pinned (OpenSpec.ofChange fnMergeCountWrong)

/-- 'laws.FnBagTells': WHATEVER THE INPUT: true; the input reads as it did. -/
def fnBagTellsSpec : ChangeSpec := { name := "fnBagTells", fn := fun _ => fun
  | [d] => { results := [.lit (.bool true)], args := [d] }
  | _ => none }
def fnBagTellsRow : OpenClaim := { program := "ytpkdjdofbedncaa", sum := "c8466f176dd03338f788ca2b77f3456e05701b2ff99a7fd2b3defe7794ea910b", func := "loop.example/lib-g01439/laws.FnBagTells", spec := "fnBagTells", inPlace := ["internal/reflectlite.ValueOf", "internal/reflectlite.Swapper", "(internal/reflectlite.Value).Len"], unfollowed := true, recurses := true, apart := false }
def FnBagTellsSaid : Prop := fnBagTellsRow.holds Try.pinned (OpenSpec.ofChange fnBagTellsSpec)

/-- ITS FALSE NEIGHBOUR: 'it returns false'. Refute it at one input. -/
def fnBagTellsWrong : ChangeSpec := { name := "fnBagTells", fn := fun _ => fun
  | [d] => { results := [.lit (.bool false)], args := [d] }
  | _ => none }
def FnBagTellsWrongFalsely : Prop := fnBagTellsRow.holds Try.pinned (OpenSpec.ofChange fnBagTellsWrong)

/-- 'laws.FnExactBag': WHATEVER THE INPUT: true; the input reads as it did. -/
def fnExactBagSpec : ChangeSpec := { name := "fnExactBag", fn := fun _ => fun
  | [d1, d2] => { results := [.lit (.bool true)], args := [d1, d2] }
  | _ => none }
def fnExactBagRow : OpenClaim := { program := "ytpkdjdofbedncaa", sum := "c8466f176dd03338f788ca2b77f3456e05701b2ff99a7fd2b3defe7794ea910b", func := "loop.example/lib-g01439/laws.FnExactBag", spec := "fnExactBag", inPlace := ["internal/reflectlite.ValueOf", "internal/reflectlite.Swapper", "(internal/reflectlite.Value).Len"], unfollowed := true, recurses := true, apart := false }
def FnExactBagSaid : Prop := fnExactBagRow.holds Try.pinned (OpenSpec.ofChange fnExactBagSpec)

/-- ITS FALSE NEIGHBOUR: 'it returns false'. Refute it at one input. -/
def fnExactBagWrong : ChangeSpec := { name := "fnExactBag", fn := fun _ => fun
  | [d1, d2] => { results := [.lit (.bool false)], args := [d1, d2] }
  | _ => none }
def FnExactBagWrongFalsely : Prop := fnExactBagRow.holds Try.pinned (OpenSpec.ofChange fnExactBagWrong)

/- THE SECOND FORM. 'bulk': how many values and letters a reading holds, each counted each time it is reached (what is shared counts as often as it is met; a slice's spare places count too). A statement '..UptoSaid' is the law's where the arguments, and the package variables that the reading takes, are together of bulk at most 1048576: NARROWER than '..Said'. Prove '..Said' where nothing that the law and all that it calls make is longer than what came in: it says more and counts as full. Else prove '..UptoSaid'. A law counts once. -/
mutual
def uptoBulk {H : Type} : DataW H → Nat
  | .lit (.string bytes) => bytes.length + 1
  | .lit _ => 1
  | .nil => 1
  | .ptr d => uptoBulk d + 1
  | .slice elems spare => uptoBulkAll elems + uptoBulkAll spare + 1
  | .agg parts => uptoBulkAll parts + 1
  | .iface _ d => uptoBulk d + 1
  | .map entries => uptoBulkEntries entries + 1
  | .held _ => 1
def uptoBulkAll {H : Type} : List (DataW H) → Nat
  | [] => 0
  | d :: r => uptoBulk d + uptoBulkAll r
def uptoBulkEntries {H : Type} : List (Lit × DataW H) → Nat
  | [] => 0
  | x :: r => uptoBulkEntry x + uptoBulkEntries r
def uptoBulkEntry {H : Type} : Lit × DataW H → Nat
  | (.string bytes, d) => bytes.length + uptoBulk d + 1
  | (_, d) => uptoBulk d + 1
 end
def uptoSmall : (H : Type) → List (DataW H) → Bool := fun _ ds => decide (uptoBulkAll ds ≤ 1048576)
def OpenSpec.upto (s : _root_.Go.ChangeSpec) : _root_.Go.OpenSpec := { _root_.Go.OpenSpec.ofChange s with cond := some uptoSmall }

/-- 'laws.FnCutJoined', WHERE WHAT IT READS IS OF BULK AT MOST 1048576: true; the input reads as it did. -/
def fnCutJoinedUptoRow : OpenClaim := { program := "ytpkdjdofbedncaa", sum := "c8466f176dd03338f788ca2b77f3456e05701b2ff99a7fd2b3defe7794ea910b", func := "loop.example/lib-g01439/laws.FnCutJoined", spec := "fnCutJoined", inPlace := ["internal/reflectlite.ValueOf", "internal/reflectlite.Swapper", "(internal/reflectlite.Value).Len"], unfollowed := true, recurses := true, apart := false, narrowed := true }
def FnCutJoinedUptoSaid : Prop := fnCutJoinedUptoRow.holds Try.pinned (OpenSpec.upto fnCutJoinedSpec)

/-- 'laws.FnExactMerge', WHERE WHAT IT READS IS OF BULK AT MOST 1048576: true; the input reads as it did. -/
def fnExactMergeUptoRow : OpenClaim := { program := "ytpkdjdofbedncaa", sum := "c8466f176dd03338f788ca2b77f3456e05701b2ff99a7fd2b3defe7794ea910b", func := "loop.example/lib-g01439/laws.FnExactMerge", spec := "fnExactMerge", inPlace := ["internal/reflectlite.ValueOf", "internal/reflectlite.Swapper", "(internal/reflectlite.Value).Len"], unfollowed := true, recurses := true, apart := false, narrowed := true }
def FnExactMergeUptoSaid : Prop := fnExactMergeUptoRow.holds Try.pinned (OpenSpec.upto fnExactMergeSpec)

/-- 'laws.FnMergeJoined', WHERE WHAT IT READS IS OF BULK AT MOST 1048576: true; the input reads as it did. -/
def fnMergeJoinedUptoRow : OpenClaim := { program := "ytpkdjdofbedncaa", sum := "c8466f176dd03338f788ca2b77f3456e05701b2ff99a7fd2b3defe7794ea910b", func := "loop.example/lib-g01439/laws.FnMergeJoined", spec := "fnMergeJoined", inPlace := ["internal/reflectlite.ValueOf", "internal/reflectlite.Swapper", "(internal/reflectlite.Value).Len"], unfollowed := true, recurses := true, apart := false, narrowed := true }
def FnMergeJoinedUptoSaid : Prop := fnMergeJoinedUptoRow.holds Try.pinned (OpenSpec.upto fnMergeJoinedSpec)

/-- 'laws.FnMergeAgain', WHERE WHAT IT READS IS OF BULK AT MOST 1048576: true; the input reads as it did. -/
def fnMergeAgainUptoRow : OpenClaim := { program := "ytpkdjdofbedncaa", sum := "c8466f176dd03338f788ca2b77f3456e05701b2ff99a7fd2b3defe7794ea910b", func := "loop.example/lib-g01439/laws.FnMergeAgain", spec := "fnMergeAgain", inPlace := ["internal/reflectlite.ValueOf", "internal/reflectlite.Swapper", "(internal/reflectlite.Value).Len"], unfollowed := true, recurses := true, apart := false, narrowed := true }
def FnMergeAgainUptoSaid : Prop := fnMergeAgainUptoRow.holds Try.pinned (OpenSpec.upto fnMergeAgainSpec)

/-- 'laws.FnMergeApart', WHERE WHAT IT READS IS OF BULK AT MOST 1048576: true; the input reads as it did. -/
def fnMergeApartUptoRow : OpenClaim := { program := "ytpkdjdofbedncaa", sum := "c8466f176dd03338f788ca2b77f3456e05701b2ff99a7fd2b3defe7794ea910b", func := "loop.example/lib-g01439/laws.FnMergeApart", spec := "fnMergeApart", inPlace := ["internal/reflectlite.ValueOf", "internal/reflectlite.Swapper", "(internal/reflectlite.Value).Len"], unfollowed := true, recurses := true, apart := false, narrowed := true }
def FnMergeApartUptoSaid : Prop := fnMergeApartUptoRow.holds Try.pinned (OpenSpec.upto fnMergeApartSpec)

/-- 'laws.FnMergeCovers', WHERE WHAT IT READS IS OF BULK AT MOST 1048576: true; the input reads as it did. -/
def fnMergeCoversUptoRow : OpenClaim := { program := "ytpkdjdofbedncaa", sum := "c8466f176dd03338f788ca2b77f3456e05701b2ff99a7fd2b3defe7794ea910b", func := "loop.example/lib-g01439/laws.FnMergeCovers", spec := "fnMergeCovers", inPlace := ["internal/reflectlite.ValueOf", "internal/reflectlite.Swapper", "(internal/reflectlite.Value).Len"], unfollowed := true, recurses := true, apart := false, narrowed := true }
def FnMergeCoversUptoSaid : Prop := fnMergeCoversUptoRow.holds Try.pinned (OpenSpec.upto fnMergeCoversSpec)

/-- 'laws.FnMergeCount', WHERE WHAT IT READS IS OF BULK AT MOST 1048576: true; the input reads as it did. -/
def fnMergeCountUptoRow : OpenClaim := { program := "ytpkdjdofbedncaa", sum := "c8466f176dd03338f788ca2b77f3456e05701b2ff99a7fd2b3defe7794ea910b", func := "loop.example/lib-g01439/laws.FnMergeCount", spec := "fnMergeCount", inPlace := ["internal/reflectlite.ValueOf", "internal/reflectlite.Swapper", "(internal/reflectlite.Value).Len"], unfollowed := true, recurses := true, apart := false, narrowed := true }
def FnMergeCountUptoSaid : Prop := fnMergeCountUptoRow.holds Try.pinned (OpenSpec.upto fnMergeCountSpec)

/-- 'laws.FnBagTells', WHERE WHAT IT READS IS OF BULK AT MOST 1048576: true; the input reads as it did. -/
def fnBagTellsUptoRow : OpenClaim := { program := "ytpkdjdofbedncaa", sum := "c8466f176dd03338f788ca2b77f3456e05701b2ff99a7fd2b3defe7794ea910b", func := "loop.example/lib-g01439/laws.FnBagTells", spec := "fnBagTells", inPlace := ["internal/reflectlite.ValueOf", "internal/reflectlite.Swapper", "(internal/reflectlite.Value).Len"], unfollowed := true, recurses := true, apart := false, narrowed := true }
def FnBagTellsUptoSaid : Prop := fnBagTellsUptoRow.holds Try.pinned (OpenSpec.upto fnBagTellsSpec)

/-- 'laws.FnExactBag', WHERE WHAT IT READS IS OF BULK AT MOST 1048576: true; the input reads as it did. -/
def fnExactBagUptoRow : OpenClaim := { program := "ytpkdjdofbedncaa", sum := "c8466f176dd03338f788ca2b77f3456e05701b2ff99a7fd2b3defe7794ea910b", func := "loop.example/lib-g01439/laws.FnExactBag", spec := "fnExactBag", inPlace := ["internal/reflectlite.ValueOf", "internal/reflectlite.Swapper", "(internal/reflectlite.Value).Len"], unfollowed := true, recurses := true, apart := false, narrowed := true }
def FnExactBagUptoSaid : Prop := fnExactBagUptoRow.holds Try.pinned (OpenSpec.upto fnExactBagSpec)

end Rows
end Go.Proofs.Ytpkdjdofbedncaa

/-
  No cell of these rows narrows 'for every input' (looked for: loops, veiled, ifaces, maps, wideKeys, modest, calm, conditions, laid).
  DERIVED. THE GIVEN ROWS OF THIS SEAT. 8 by the template 'for every input the law returns true; each argument reads behind the call as it read before'; 0 by the template 'total and deterministic' (their statements: YtiioojnoggcnmaaTotals.lean).
  GIVEN WITH THE SEED: the statements are not yours to turn. If you find one false, say at which input.
  Laid BY PROGRAM, IN A SANDBOX (cutbox-rows.mjs): the forced cells as the released guide's own fill.sh prints them over the translation bbe27b2eb9ca69db… (all of the seat's roots in one cut). By AI agents, Wed Nov 11 2026. No macro, syntax, notation, axiom, sorry.
-/
import Derived.Test.YtiioojnoggcnmaaChecked
import GoSem.Claim
import GoSem.ClaimJoined
import GoSem.ClaimMapViews
import Derived.JoinedTies
import Derived.KernelRfl
namespace Go.Proofs.Ytiioojnoggcnmaa
/- THE CELL 'sum', in the pinned program and in every row, IS THE sha256 OF THE DUMP (.gsa) THAT YtiioojnoggcnmaaProg.lean LOADS. Nothing in Lean hashes anything: it is a label: what it is worth is what the hold of that sum in a sandbox is worth. -/
noncomputable def Try.pinned : Pinned := { name := "ytiioojnoggcnmaa", sum := "bbe27b2eb9ca69dbfefe8aafdce989ddd19836fbc1d06e7b84d0e35c9dbb15d9", checked := Try.checked }
namespace Rows
def none {H : Type} : Left H := { results := [], args := [] }

/-- 'laws.FnSwapsSort': WHATEVER THE INPUT: true; the input reads as it did. -/
def fnSwapsSortSpec : ChangeSpec := { name := "fnSwapsSort", fn := fun _ => fun
  | [d] => { results := [.lit (.bool true)], args := [d] }
  | _ => none }
def fnSwapsSortRow : OpenClaim := { program := "ytiioojnoggcnmaa", sum := "bbe27b2eb9ca69dbfefe8aafdce989ddd19836fbc1d06e7b84d0e35c9dbb15d9", func := "loop.example/lib-g01439/laws.FnSwapsSort", spec := "fnSwapsSort", inPlace := ["internal/reflectlite.ValueOf", "internal/reflectlite.Swapper", "(internal/reflectlite.Value).Len"], unfollowed := true, recurses := true, apart := false }
def FnSwapsSortSaid : Prop := fnSwapsSortRow.holds Try.pinned (OpenSpec.ofChange fnSwapsSortSpec)

/-- ITS FALSE NEIGHBOUR: 'it returns false'. Refute it at one input. -/
def fnSwapsSortWrong : ChangeSpec := { name := "fnSwapsSort", fn := fun _ => fun
  | [d] => { results := [.lit (.bool false)], args := [d] }
  | _ => none }
def FnSwapsSortWrongFalsely : Prop := fnSwapsSortRow.holds Try.pinned (OpenSpec.ofChange fnSwapsSortWrong)

/-- 'laws.FnExactSortRows': WHATEVER THE INPUT: true; the input reads as it did. -/
def fnExactSortRowsSpec : ChangeSpec := { name := "fnExactSortRows", fn := fun _ => fun
  | [d1, d2] => { results := [.lit (.bool true)], args := [d1, d2] }
  | _ => none }
def fnExactSortRowsRow : OpenClaim := { program := "ytiioojnoggcnmaa", sum := "bbe27b2eb9ca69dbfefe8aafdce989ddd19836fbc1d06e7b84d0e35c9dbb15d9", func := "loop.example/lib-g01439/laws.FnExactSortRows", spec := "fnExactSortRows", inPlace := ["internal/reflectlite.ValueOf", "internal/reflectlite.Swapper", "(internal/reflectlite.Value).Len"], unfollowed := true, recurses := true, apart := false }
def FnExactSortRowsSaid : Prop := fnExactSortRowsRow.holds Try.pinned (OpenSpec.ofChange fnExactSortRowsSpec)

/-- ITS FALSE NEIGHBOUR: 'it returns false'. Refute it at one input. -/
def fnExactSortRowsWrong : ChangeSpec := { name := "fnExactSortRows", fn := fun _ => fun
  | [d1, d2] => { results := [.lit (.bool false)], args := [d1, d2] }
  | _ => none }
def FnExactSortRowsWrongFalsely : Prop := fnExactSortRowsRow.holds Try.pinned (OpenSpec.ofChange fnExactSortRowsWrong)

/-- 'laws.FnSwapsParity': WHATEVER THE INPUT: true; the input reads as it did. -/
def fnSwapsParitySpec : ChangeSpec := { name := "fnSwapsParity", fn := fun _ => fun
  | [d] => { results := [.lit (.bool true)], args := [d] }
  | _ => none }
def fnSwapsParityRow : OpenClaim := { program := "ytiioojnoggcnmaa", sum := "bbe27b2eb9ca69dbfefe8aafdce989ddd19836fbc1d06e7b84d0e35c9dbb15d9", func := "loop.example/lib-g01439/laws.FnSwapsParity", spec := "fnSwapsParity", inPlace := ["internal/reflectlite.ValueOf", "internal/reflectlite.Swapper", "(internal/reflectlite.Value).Len"], unfollowed := true, recurses := true, apart := false }
def FnSwapsParitySaid : Prop := fnSwapsParityRow.holds Try.pinned (OpenSpec.ofChange fnSwapsParitySpec)

/-- ITS FALSE NEIGHBOUR: 'it returns false'. Refute it at one input. -/
def fnSwapsParityWrong : ChangeSpec := { name := "fnSwapsParity", fn := fun _ => fun
  | [d] => { results := [.lit (.bool false)], args := [d] }
  | _ => none }
def FnSwapsParityWrongFalsely : Prop := fnSwapsParityRow.holds Try.pinned (OpenSpec.ofChange fnSwapsParityWrong)

/-- 'laws.FnSwapsLeast': WHATEVER THE INPUT: true; the input reads as it did. -/
def fnSwapsLeastSpec : ChangeSpec := { name := "fnSwapsLeast", fn := fun _ => fun
  | [d] => { results := [.lit (.bool true)], args := [d] }
  | _ => none }
def fnSwapsLeastRow : OpenClaim := { program := "ytiioojnoggcnmaa", sum := "bbe27b2eb9ca69dbfefe8aafdce989ddd19836fbc1d06e7b84d0e35c9dbb15d9", func := "loop.example/lib-g01439/laws.FnSwapsLeast", spec := "fnSwapsLeast", inPlace := ["internal/reflectlite.ValueOf", "internal/reflectlite.Swapper", "(internal/reflectlite.Value).Len"], unfollowed := true, recurses := true, apart := false }
def FnSwapsLeastSaid : Prop := fnSwapsLeastRow.holds Try.pinned (OpenSpec.ofChange fnSwapsLeastSpec)

/-- ITS FALSE NEIGHBOUR: 'it returns false'. Refute it at one input. -/
def fnSwapsLeastWrong : ChangeSpec := { name := "fnSwapsLeast", fn := fun _ => fun
  | [d] => { results := [.lit (.bool false)], args := [d] }
  | _ => none }
def FnSwapsLeastWrongFalsely : Prop := fnSwapsLeastRow.holds Try.pinned (OpenSpec.ofChange fnSwapsLeastWrong)

/-- 'laws.FnRowsAgain': WHATEVER THE INPUT: true; the input reads as it did. -/
def fnRowsAgainSpec : ChangeSpec := { name := "fnRowsAgain", fn := fun _ => fun
  | [d1, d2, d3] => { results := [.lit (.bool true)], args := [d1, d2, d3] }
  | _ => none }
def fnRowsAgainRow : OpenClaim := { program := "ytiioojnoggcnmaa", sum := "bbe27b2eb9ca69dbfefe8aafdce989ddd19836fbc1d06e7b84d0e35c9dbb15d9", func := "loop.example/lib-g01439/laws.FnRowsAgain", spec := "fnRowsAgain", inPlace := ["internal/reflectlite.ValueOf", "internal/reflectlite.Swapper", "(internal/reflectlite.Value).Len"], unfollowed := true, recurses := true, apart := false }
def FnRowsAgainSaid : Prop := fnRowsAgainRow.holds Try.pinned (OpenSpec.ofChange fnRowsAgainSpec)

/-- ITS FALSE NEIGHBOUR: 'it returns false'. Refute it at one input. -/
def fnRowsAgainWrong : ChangeSpec := { name := "fnRowsAgain", fn := fun _ => fun
  | [d1, d2, d3] => { results := [.lit (.bool false)], args := [d1, d2, d3] }
  | _ => none }
def FnRowsAgainWrongFalsely : Prop := fnRowsAgainRow.holds Try.pinned (OpenSpec.ofChange fnRowsAgainWrong)

/-- 'laws.FnRowsCut': WHATEVER THE INPUT: true; the input reads as it did. -/
def fnRowsCutSpec : ChangeSpec := { name := "fnRowsCut", fn := fun _ => fun
  | [d1, d2, d3] => { results := [.lit (.bool true)], args := [d1, d2, d3] }
  | _ => none }
def fnRowsCutRow : OpenClaim := { program := "ytiioojnoggcnmaa", sum := "bbe27b2eb9ca69dbfefe8aafdce989ddd19836fbc1d06e7b84d0e35c9dbb15d9", func := "loop.example/lib-g01439/laws.FnRowsCut", spec := "fnRowsCut", inPlace := ["internal/reflectlite.ValueOf", "internal/reflectlite.Swapper", "(internal/reflectlite.Value).Len"], unfollowed := true, recurses := true, apart := false }
def FnRowsCutSaid : Prop := fnRowsCutRow.holds Try.pinned (OpenSpec.ofChange fnRowsCutSpec)

/-- ITS FALSE NEIGHBOUR: 'it returns false'. Refute it at one input. -/
def fnRowsCutWrong : ChangeSpec := { name := "fnRowsCut", fn := fun _ => fun
  | [d1, d2, d3] => { results := [.lit (.bool false)], args := [d1, d2, d3] }
  | _ => none }
def FnRowsCutWrongFalsely : Prop := fnRowsCutRow.holds Try.pinned (OpenSpec.ofChange fnRowsCutWrong)

/-- 'laws.FnRowsKeys': WHATEVER THE INPUT: true; the input reads as it did. -/
def fnRowsKeysSpec : ChangeSpec := { name := "fnRowsKeys", fn := fun _ => fun
  | [d1, d2] => { results := [.lit (.bool true)], args := [d1, d2] }
  | _ => none }
def fnRowsKeysRow : OpenClaim := { program := "ytiioojnoggcnmaa", sum := "bbe27b2eb9ca69dbfefe8aafdce989ddd19836fbc1d06e7b84d0e35c9dbb15d9", func := "loop.example/lib-g01439/laws.FnRowsKeys", spec := "fnRowsKeys", inPlace := ["internal/reflectlite.ValueOf", "internal/reflectlite.Swapper", "(internal/reflectlite.Value).Len"], unfollowed := true, recurses := true, apart := false }
def FnRowsKeysSaid : Prop := fnRowsKeysRow.holds Try.pinned (OpenSpec.ofChange fnRowsKeysSpec)

/-- ITS FALSE NEIGHBOUR: 'it returns false'. Refute it at one input. -/
def fnRowsKeysWrong : ChangeSpec := { name := "fnRowsKeys", fn := fun _ => fun
  | [d1, d2] => { results := [.lit (.bool false)], args := [d1, d2] }
  | _ => none }
def FnRowsKeysWrongFalsely : Prop := fnRowsKeysRow.holds Try.pinned (OpenSpec.ofChange fnRowsKeysWrong)

/-- 'laws.FnRowsMirror': WHATEVER THE INPUT: true; the input reads as it did. -/
def fnRowsMirrorSpec : ChangeSpec := { name := "fnRowsMirror", fn := fun _ => fun
  | [d1, d2] => { results := [.lit (.bool true)], args := [d1, d2] }
  | _ => none }
def fnRowsMirrorRow : OpenClaim := { program := "ytiioojnoggcnmaa", sum := "bbe27b2eb9ca69dbfefe8aafdce989ddd19836fbc1d06e7b84d0e35c9dbb15d9", func := "loop.example/lib-g01439/laws.FnRowsMirror", spec := "fnRowsMirror", inPlace := ["internal/reflectlite.ValueOf", "internal/reflectlite.Swapper", "(internal/reflectlite.Value).Len"], unfollowed := true, recurses := true, apart := false }
def FnRowsMirrorSaid : Prop := fnRowsMirrorRow.holds Try.pinned (OpenSpec.ofChange fnRowsMirrorSpec)

/-- ITS FALSE NEIGHBOUR: 'it returns false'. Refute it at one input. -/
def fnRowsMirrorWrong : ChangeSpec := { name := "fnRowsMirror", fn := fun _ => fun
  | [d1, d2] => { results := [.lit (.bool false)], args := [d1, d2] }
  | _ => none }
def FnRowsMirrorWrongFalsely : Prop := fnRowsMirrorRow.holds Try.pinned (OpenSpec.ofChange fnRowsMirrorWrong)

/- THE SECOND FORM. 'bulk': how many values and letters a reading holds, each counted each time it is reached (what is shared counts as often as it is met; a slice's spare places count too). A statement '..UptoSaid' is the law's where the arguments, and the package variables that the reading takes, are together of bulk at most 1048576: NARROWER than '..Said'. Prove '..Said' where nothing that the law and all that it calls make is longer than what came in: it says more and counts as full. Else prove '..UptoSaid'. A law counts once. -/
mutual
def uptoBulk {H : Type} : DataW H → Nat
  | .lit (.string bytes) => bytes.length + 1
  | .lit _ => 1
  | .nil => 1
  | .ptr d => uptoBulk d + 1
  | .slice elems spare => uptoBulkAll elems + uptoBulkAll spare + 1
  | .agg parts => uptoBulkAll parts + 1
  | .iface _ d => uptoBulk d + 1
  | .map entries => uptoBulkEntries entries + 1
  | .held _ => 1
def uptoBulkAll {H : Type} : List (DataW H) → Nat
  | [] => 0
  | d :: r => uptoBulk d + uptoBulkAll r
def uptoBulkEntries {H : Type} : List (Lit × DataW H) → Nat
  | [] => 0
  | x :: r => uptoBulkEntry x + uptoBulkEntries r
def uptoBulkEntry {H : Type} : Lit × DataW H → Nat
  | (.string bytes, d) => bytes.length + uptoBulk d + 1
  | (_, d) => uptoBulk d + 1
 end
def uptoSmall : (H : Type) → List (DataW H) → Bool := fun _ ds => decide (uptoBulkAll ds ≤ 1048576)
def OpenSpec.upto (s : _root_.Go.ChangeSpec) : _root_.Go.OpenSpec := { _root_.Go.OpenSpec.ofChange s with cond := some uptoSmall }

/-- 'laws.FnSwapsSort', WHERE WHAT IT READS IS OF BULK AT MOST 1048576: true; the input reads as it did. -/
def fnSwapsSortUptoRow : OpenClaim := { program := "ytiioojnoggcnmaa", sum := "bbe27b2eb9ca69dbfefe8aafdce989ddd19836fbc1d06e7b84d0e35c9dbb15d9", func := "loop.example/lib-g01439/laws.FnSwapsSort", spec := "fnSwapsSort", inPlace := ["internal/reflectlite.ValueOf", "internal/reflectlite.Swapper", "(internal/reflectlite.Value).Len"], unfollowed := true, recurses := true, apart := false, narrowed := true }
def FnSwapsSortUptoSaid : Prop := fnSwapsSortUptoRow.holds Try.pinned (OpenSpec.upto fnSwapsSortSpec)

/-- 'laws.FnExactSortRows', WHERE WHAT IT READS IS OF BULK AT MOST 1048576: true; the input reads as it did. -/
def fnExactSortRowsUptoRow : OpenClaim := { program := "ytiioojnoggcnmaa", sum := "bbe27b2eb9ca69dbfefe8aafdce989ddd19836fbc1d06e7b84d0e35c9dbb15d9", func := "loop.example/lib-g01439/laws.FnExactSortRows", spec := "fnExactSortRows", inPlace := ["internal/reflectlite.ValueOf", "internal/reflectlite.Swapper", "(internal/reflectlite.Value).Len"], unfollowed := true, recurses := true, apart := false, narrowed := true }
def FnExactSortRowsUptoSaid : Prop := fnExactSortRowsUptoRow.holds Try.pinned (OpenSpec.upto fnExactSortRowsSpec)

/-- 'laws.FnSwapsParity', WHERE WHAT IT READS IS OF BULK AT MOST 1048576: true; the input reads as it did. -/
def fnSwapsParityUptoRow : OpenClaim := { program := "ytiioojnoggcnmaa", sum := "bbe27b2eb9ca69dbfefe8aafdce989ddd19836fbc1d06e7b84d0e35c9dbb15d9", func := "loop.example/lib-g01439/laws.FnSwapsParity", spec := "fnSwapsParity", inPlace := ["internal/reflectlite.ValueOf", "internal/reflectlite.Swapper", "(internal/reflectlite.Value).Len"], unfollowed := true, recurses := true, apart := false, narrowed := true }
def FnSwapsParityUptoSaid : Prop := fnSwapsParityUptoRow.holds Try.pinned (OpenSpec.upto fnSwapsParitySpec)

/-- 'laws.FnSwapsLeast', WHERE WHAT IT READS IS OF BULK AT MOST 1048576: true; the input reads as it did. -/
def fnSwapsLeastUptoRow : OpenClaim := { program := "ytiioojnoggcnmaa", sum := "bbe27b2eb9ca69dbfefe8aafdce989ddd19836fbc1d06e7b84d0e35c9dbb15d9", func := "loop.example/lib-g01439/laws.FnSwapsLeast", spec := "fnSwapsLeast", inPlace := ["internal/reflectlite.ValueOf", "internal/reflectlite.Swapper", "(internal/reflectlite.Value).Len"], unfollowed := true, recurses := true, apart := false, narrowed := true }
def FnSwapsLeastUptoSaid : Prop := fnSwapsLeastUptoRow.holds Try.pinned (OpenSpec.upto fnSwapsLeastSpec)

/-- 'laws.FnRowsAgain', WHERE WHAT IT READS IS OF BULK AT MOST 1048576: true; the input reads as it did. -/
def fnRowsAgainUptoRow : OpenClaim := { program := "ytiioojnoggcnmaa", sum := "bbe27b2eb9ca69dbfefe8aafdce989ddd19836fbc1d06e7b84d0e35c9dbb15d9", func := "loop.example/lib-g01439/laws.FnRowsAgain", spec := "fnRowsAgain", inPlace := ["internal/reflectlite.ValueOf", "internal/reflectlite.Swapper", "(internal/reflectlite.Value).Len"], unfollowed := true, recurses := true, apart := false, narrowed := true }
def FnRowsAgainUptoSaid : Prop := fnRowsAgainUptoRow.holds Try.pinned (OpenSpec.upto fnRowsAgainSpec)

/-- 'laws.FnRowsCut', WHERE WHAT IT READS IS OF BULK AT MOST 1048576: true; the input reads as it did. -/
def fnRowsCutUptoRow : OpenClaim := { program := "ytiioojnoggcnmaa", sum := "bbe27b2eb9ca69dbfefe8aafdce989ddd19836fbc1d06e7b84d0e35c9dbb15d9", func := "loop.example/lib-g01439/laws.FnRowsCut", spec := "fnRowsCut", inPlace := ["internal/reflectlite.ValueOf", "internal/reflectlite.Swapper", "(internal/reflectlite.Value).Len"], unfollowed := true, recurses := true, apart := false, narrowed := true }
def FnRowsCutUptoSaid : Prop := fnRowsCutUptoRow.holds Try.pinned (OpenSpec.upto fnRowsCutSpec)

/-- 'laws.FnRowsKeys', WHERE WHAT IT READS IS OF BULK AT MOST 1048576: true; the input reads as it did. -/
def fnRowsKeysUptoRow : OpenClaim := { program := "ytiioojnoggcnmaa", sum := "bbe27b2eb9ca69dbfefe8aafdce989ddd19836fbc1d06e7b84d0e35c9dbb15d9", func := "loop.example/lib-g01439/laws.FnRowsKeys", spec := "fnRowsKeys", inPlace := ["internal/reflectlite.ValueOf", "internal/reflectlite.Swapper", "(internal/reflectlite.Value).Len"], unfollowed := true, recurses := true, apart := false, narrowed := true }
def FnRowsKeysUptoSaid : Prop := fnRowsKeysUptoRow.holds Try.pinned (OpenSpec.upto fnRowsKeysSpec)

/-- 'laws.FnRowsMirror', WHERE WHAT IT READS IS OF BULK AT MOST 1048576: true; the input reads as it did. -/
def fnRowsMirrorUptoRow : OpenClaim := { program := "ytiioojnoggcnmaa", sum := "bbe27b2eb9ca69dbfefe8aafdce989ddd19836fbc1d06e7b84d0e35c9dbb15d9", func := "loop.example/lib-g01439/laws.FnRowsMirror", spec := "fnRowsMirror", inPlace := ["internal/reflectlite.ValueOf", "internal/reflectlite.Swapper", "(internal/reflectlite.Value).Len"], unfollowed := true, recurses := true, apart := false, narrowed := true }
def FnRowsMirrorUptoSaid : Prop := fnRowsMirrorUptoRow.holds Try.pinned (OpenSpec.upto fnRowsMirrorSpec)

end Rows
end Go.Proofs.Ytiioojnoggcnmaa

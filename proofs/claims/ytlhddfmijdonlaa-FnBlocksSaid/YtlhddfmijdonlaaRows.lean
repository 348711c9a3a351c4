/-
  No cell of these rows narrows 'for every input' (looked for: loops, veiled, ifaces, maps, wideKeys, modest, calm, conditions, laid).
  DERIVED. THE GIVEN ROWS OF THIS SEAT. 7 by the template 'for every input the law returns true; each argument reads behind the call as it read before'; 0 by the template 'total and deterministic' (their statements: YtlhddfmijdonlaaTotals.lean).
  GIVEN WITH THE SEED: the statements are not yours to turn. If you find one false, say at which input.
  Laid BY PROGRAM, IN A SANDBOX (cutbox-rows.mjs): the forced cells as the released guide's own fill.sh prints them over the translation 6bafcbf2f5b42acd… (all of the seat's roots in one cut). By AI agents, Wed Nov 11 2026. No macro, syntax, notation, axiom, sorry.
-/
import Derived.Test.YtlhddfmijdonlaaChecked
import GoSem.Claim
import GoSem.ClaimJoined
import GoSem.ClaimMapViews
import Derived.JoinedTies
import Derived.KernelRfl
namespace Go.Proofs.Ytlhddfmijdonlaa
/- THE CELL 'sum', in the pinned program and in every row, IS THE sha256 OF THE DUMP (.gsa) THAT YtlhddfmijdonlaaProg.lean LOADS. Nothing in Lean hashes anything: it is a label: what it is worth is what the hold of that sum in a sandbox is worth. -/
noncomputable def Try.pinned : Pinned := { name := "ytlhddfmijdonlaa", sum := "6bafcbf2f5b42acd389993c334added1b3143eab515a7a8b8aa4c7ac55259b3f", checked := Try.checked }
namespace Rows
def none {H : Type} : Left H := { results := [], args := [] }

/-- 'laws.FnTurned': WHATEVER THE INPUT: true; the input reads as it did. -/
def fnTurnedSpec : ChangeSpec := { name := "fnTurned", fn := fun _ => fun
  | [d1, d2] => { results := [.lit (.bool true)], args := [d1, d2] }
  | _ => none }
def fnTurnedRow : OpenClaim := { program := "ytlhddfmijdonlaa", sum := "6bafcbf2f5b42acd389993c334added1b3143eab515a7a8b8aa4c7ac55259b3f", func := "loop.example/lib-g03215/laws.FnTurned", spec := "fnTurned", inPlace := ["internal/reflectlite.ValueOf", "internal/reflectlite.Swapper", "(internal/reflectlite.Value).Len"], unfollowed := true, recurses := true, apart := false }
def FnTurnedSaid : Prop := fnTurnedRow.holds Try.pinned (OpenSpec.ofChange fnTurnedSpec)

/-- ITS FALSE NEIGHBOUR: 'it returns false'. Refute it at one input. -/
def fnTurnedWrong : ChangeSpec := { name := "fnTurned", fn := fun _ => fun
  | [d1, d2] => { results := [.lit (.bool false)], args := [d1, d2] }
  | _ => none }
def FnTurnedWrongFalsely : Prop := fnTurnedRow.holds Try.pinned (OpenSpec.ofChange fnTurnedWrong)

/-- 'laws.FnTwice': WHATEVER THE INPUT: true; the input reads as it did. -/
def fnTwiceSpec : ChangeSpec := { name := "fnTwice", fn := fun _ => fun
  | [d1, d2] => { results := [.lit (.bool true)], args := [d1, d2] }
  | _ => none }
def fnTwiceRow : OpenClaim := { program := "ytlhddfmijdonlaa", sum := "6bafcbf2f5b42acd389993c334added1b3143eab515a7a8b8aa4c7ac55259b3f", func := "loop.example/lib-g03215/laws.FnTwice", spec := "fnTwice", inPlace := ["internal/reflectlite.ValueOf", "internal/reflectlite.Swapper", "(internal/reflectlite.Value).Len"], unfollowed := true, recurses := true, apart := false }
def FnTwiceSaid : Prop := fnTwiceRow.holds Try.pinned (OpenSpec.ofChange fnTwiceSpec)

/-- ITS FALSE NEIGHBOUR: 'it returns false'. Refute it at one input. -/
def fnTwiceWrong : ChangeSpec := { name := "fnTwice", fn := fun _ => fun
  | [d1, d2] => { results := [.lit (.bool false)], args := [d1, d2] }
  | _ => none }
def FnTwiceWrongFalsely : Prop := fnTwiceRow.holds Try.pinned (OpenSpec.ofChange fnTwiceWrong)

/-- 'laws.FnTwoKeys': WHATEVER THE INPUT: true; the input reads as it did. -/
def fnTwoKeysSpec : ChangeSpec := { name := "fnTwoKeys", fn := fun _ => fun
  | [d1, d2, d3] => { results := [.lit (.bool true)], args := [d1, d2, d3] }
  | _ => none }
def fnTwoKeysRow : OpenClaim := { program := "ytlhddfmijdonlaa", sum := "6bafcbf2f5b42acd389993c334added1b3143eab515a7a8b8aa4c7ac55259b3f", func := "loop.example/lib-g03215/laws.FnTwoKeys", spec := "fnTwoKeys", inPlace := ["internal/reflectlite.ValueOf", "internal/reflectlite.Swapper", "(internal/reflectlite.Value).Len"], unfollowed := true, recurses := true, apart := false }
def FnTwoKeysSaid : Prop := fnTwoKeysRow.holds Try.pinned (OpenSpec.ofChange fnTwoKeysSpec)

/-- ITS FALSE NEIGHBOUR: 'it returns false'. Refute it at one input. -/
def fnTwoKeysWrong : ChangeSpec := { name := "fnTwoKeys", fn := fun _ => fun
  | [d1, d2, d3] => { results := [.lit (.bool false)], args := [d1, d2, d3] }
  | _ => none }
def FnTwoKeysWrongFalsely : Prop := fnTwoKeysRow.holds Try.pinned (OpenSpec.ofChange fnTwoKeysWrong)

/-- 'laws.FnAnyTable': WHATEVER THE INPUT: true; the input reads as it did. -/
def fnAnyTableSpec : ChangeSpec := { name := "fnAnyTable", fn := fun _ => fun
  | [d1, d2, d3] => { results := [.lit (.bool true)], args := [d1, d2, d3] }
  | _ => none }
def fnAnyTableRow : OpenClaim := { program := "ytlhddfmijdonlaa", sum := "6bafcbf2f5b42acd389993c334added1b3143eab515a7a8b8aa4c7ac55259b3f", func := "loop.example/lib-g03215/laws.FnAnyTable", spec := "fnAnyTable", inPlace := ["internal/reflectlite.ValueOf", "internal/reflectlite.Swapper", "(internal/reflectlite.Value).Len"], unfollowed := true, recurses := true, apart := false }
def FnAnyTableSaid : Prop := fnAnyTableRow.holds Try.pinned (OpenSpec.ofChange fnAnyTableSpec)

/-- ITS FALSE NEIGHBOUR: 'it returns false'. Refute it at one input. -/
def fnAnyTableWrong : ChangeSpec := { name := "fnAnyTable", fn := fun _ => fun
  | [d1, d2, d3] => { results := [.lit (.bool false)], args := [d1, d2, d3] }
  | _ => none }
def FnAnyTableWrongFalsely : Prop := fnAnyTableRow.holds Try.pinned (OpenSpec.ofChange fnAnyTableWrong)

/-- 'laws.FnAscending': WHATEVER THE INPUT: true; the input reads as it did. -/
def fnAscendingSpec : ChangeSpec := { name := "fnAscending", fn := fun _ => fun
  | [d1, d2, d3] => { results := [.lit (.bool true)], args := [d1, d2, d3] }
  | _ => none }
def fnAscendingRow : OpenClaim := { program := "ytlhddfmijdonlaa", sum := "6bafcbf2f5b42acd389993c334added1b3143eab515a7a8b8aa4c7ac55259b3f", func := "loop.example/lib-g03215/laws.FnAscending", spec := "fnAscending", inPlace := ["internal/reflectlite.ValueOf", "internal/reflectlite.Swapper", "(internal/reflectlite.Value).Len"], unfollowed := true, recurses := true, apart := false }
def FnAscendingSaid : Prop := fnAscendingRow.holds Try.pinned (OpenSpec.ofChange fnAscendingSpec)

/-- ITS FALSE NEIGHBOUR: 'it returns false'. Refute it at one input. -/
def fnAscendingWrong : ChangeSpec := { name := "fnAscending", fn := fun _ => fun
  | [d1, d2, d3] => { results := [.lit (.bool false)], args := [d1, d2, d3] }
  | _ => none }
def FnAscendingWrongFalsely : Prop := fnAscendingRow.holds Try.pinned (OpenSpec.ofChange fnAscendingWrong)

/-- 'laws.FnBlocks': WHATEVER THE INPUT: true; the input reads as it did. -/
def fnBlocksSpec : ChangeSpec := { name := "fnBlocks", fn := fun _ => fun
  | [d1, d2, d3] => { results := [.lit (.bool true)], args := [d1, d2, d3] }
  | _ => none }
def fnBlocksRow : OpenClaim := { program := "ytlhddfmijdonlaa", sum := "6bafcbf2f5b42acd389993c334added1b3143eab515a7a8b8aa4c7ac55259b3f", func := "loop.example/lib-g03215/laws.FnBlocks", spec := "fnBlocks", inPlace := ["internal/reflectlite.ValueOf", "internal/reflectlite.Swapper", "(internal/reflectlite.Value).Len"], unfollowed := true, recurses := true, apart := false }
def FnBlocksSaid : Prop := fnBlocksRow.holds Try.pinned (OpenSpec.ofChange fnBlocksSpec)

/-- ITS FALSE NEIGHBOUR: 'it returns false'. Refute it at one input. -/
def fnBlocksWrong : ChangeSpec := { name := "fnBlocks", fn := fun _ => fun
  | [d1, d2, d3] => { results := [.lit (.bool false)], args := [d1, d2, d3] }
  | _ => none }
def FnBlocksWrongFalsely : Prop := fnBlocksRow.holds Try.pinned (OpenSpec.ofChange fnBlocksWrong)

/-- 'laws.FnEqualKept': WHATEVER THE INPUT: true; the input reads as it did. -/
def fnEqualKeptSpec : ChangeSpec := { name := "fnEqualKept", fn := fun _ => fun
  | [d1, d2] => { results := [.lit (.bool true)], args := [d1, d2] }
  | _ => none }
def fnEqualKeptRow : OpenClaim := { program := "ytlhddfmijdonlaa", sum := "6bafcbf2f5b42acd389993c334added1b3143eab515a7a8b8aa4c7ac55259b3f", func := "loop.example/lib-g03215/laws.FnEqualKept", spec := "fnEqualKept", inPlace := ["internal/reflectlite.ValueOf", "internal/reflectlite.Swapper", "(internal/reflectlite.Value).Len"], unfollowed := true, recurses := true, apart := false }
def FnEqualKeptSaid : Prop := fnEqualKeptRow.holds Try.pinned (OpenSpec.ofChange fnEqualKeptSpec)

/-- ITS FALSE NEIGHBOUR: 'it returns false'. Refute it at one input. -/
def fnEqualKeptWrong : ChangeSpec := { name := "fnEqualKept", fn := fun _ => fun
  | [d1, d2] => { results := [.lit (.bool false)], args := [d1, d2] }
  | _ => none }
def FnEqualKeptWrongFalsely : Prop := fnEqualKeptRow.holds Try.pinned (OpenSpec.ofChange fnEqualKeptWrong)

/- THE SECOND FORM. 'bulk': how many values and letters a reading holds, each counted each time it is reached (what is shared counts as often as it is met; a slice's spare places count too). A statement '..UptoSaid' is the law's where the arguments, and the package variables that the reading takes, are together of bulk at most 1048576: NARROWER than '..Said'. Prove '..Said' where nothing that the law and all that it calls make is longer than what came in: it says more and counts as full. Else prove '..UptoSaid'. A law counts once. -/
mutual
def uptoBulk {H : Type} : DataW H → Nat
  | .lit (.string bytes) => bytes.length + 1
  | .lit _ => 1
  | .nil => 1
  | .ptr d => uptoBulk d + 1
  | .slice elems spare => uptoBulkAll elems + uptoBulkAll spare + 1
  | .agg parts => uptoBulkAll parts + 1
  | .iface _ d => uptoBulk d + 1
  | .map entries => uptoBulkEntries entries + 1
  | .held _ => 1
def uptoBulkAll {H : Type} : List (DataW H) → Nat
  | [] => 0
  | d :: r => uptoBulk d + uptoBulkAll r
def uptoBulkEntries {H : Type} : List (Lit × DataW H) → Nat
  | [] => 0
  | x :: r => uptoBulkEntry x + uptoBulkEntries r
def uptoBulkEntry {H : Type} : Lit × DataW H → Nat
  | (.string bytes, d) => bytes.length + uptoBulk d + 1
  | (_, d) => uptoBulk d + 1
 end
def uptoSmall : (H : Type) → List (DataW H) → Bool := fun _ ds => decide (uptoBulkAll ds ≤ 1048576)
def OpenSpec.upto (s : _root_.Go.ChangeSpec) : _root_.Go.OpenSpec := { _root_.Go.OpenSpec.ofChange s with cond := some uptoSmall }

/-- 'laws.FnTurned', WHERE WHAT IT READS IS OF BULK AT MOST 1048576: true; the input reads as it did. -/
def fnTurnedUptoRow : OpenClaim := { program := "ytlhddfmijdonlaa", sum := "6bafcbf2f5b42acd389993c334added1b3143eab515a7a8b8aa4c7ac55259b3f", func := "loop.example/lib-g03215/laws.FnTurned", spec := "fnTurned", inPlace := ["internal/reflectlite.ValueOf", "internal/reflectlite.Swapper", "(internal/reflectlite.Value).Len"], unfollowed := true, recurses := true, apart := false, narrowed := true }
def FnTurnedUptoSaid : Prop := fnTurnedUptoRow.holds Try.pinned (OpenSpec.upto fnTurnedSpec)

/-- 'laws.FnTwice', WHERE WHAT IT READS IS OF BULK AT MOST 1048576: true; the input reads as it did. -/
def fnTwiceUptoRow : OpenClaim := { program := "ytlhddfmijdonlaa", sum := "6bafcbf2f5b42acd389993c334added1b3143eab515a7a8b8aa4c7ac55259b3f", func := "loop.example/lib-g03215/laws.FnTwice", spec := "fnTwice", inPlace := ["internal/reflectlite.ValueOf", "internal/reflectlite.Swapper", "(internal/reflectlite.Value).Len"], unfollowed := true, recurses := true, apart := false, narrowed := true }
def FnTwiceUptoSaid : Prop := fnTwiceUptoRow.holds Try.pinned (OpenSpec.upto fnTwiceSpec)

/-- 'laws.FnTwoKeys', WHERE WHAT IT READS IS OF BULK AT MOST 1048576: true; the input reads as it did. -/
def fnTwoKeysUptoRow : OpenClaim := { program := "ytlhddfmijdonlaa", sum := "6bafcbf2f5b42acd389993c334added1b3143eab515a7a8b8aa4c7ac55259b3f", func := "loop.example/lib-g03215/laws.FnTwoKeys", spec := "fnTwoKeys", inPlace := ["internal/reflectlite.ValueOf", "internal/reflectlite.Swapper", "(internal/reflectlite.Value).Len"], unfollowed := true, recurses := true, apart := false, narrowed := true }
def FnTwoKeysUptoSaid : Prop := fnTwoKeysUptoRow.holds Try.pinned (OpenSpec.upto fnTwoKeysSpec)

/-- 'laws.FnAnyTable', WHERE WHAT IT READS IS OF BULK AT MOST 1048576: true; the input reads as it did. -/
def fnAnyTableUptoRow : OpenClaim := { program := "ytlhddfmijdonlaa", sum := "6bafcbf2f5b42acd389993c334added1b3143eab515a7a8b8aa4c7ac55259b3f", func := "loop.example/lib-g03215/laws.FnAnyTable", spec := "fnAnyTable", inPlace := ["internal/reflectlite.ValueOf", "internal/reflectlite.Swapper", "(internal/reflectlite.Value).Len"], unfollowed := true, recurses := true, apart := false, narrowed := true }
def FnAnyTableUptoSaid : Prop := fnAnyTableUptoRow.holds Try.pinned (OpenSpec.upto fnAnyTableSpec)

/-- 'laws.FnAscending', WHERE WHAT IT READS IS OF BULK AT MOST 1048576: true; the input reads as it did. -/
def fnAscendingUptoRow : OpenClaim := { program := "ytlhddfmijdonlaa", sum := "6bafcbf2f5b42acd389993c334added1b3143eab515a7a8b8aa4c7ac55259b3f", func := "loop.example/lib-g03215/laws.FnAscending", spec := "fnAscending", inPlace := ["internal/reflectlite.ValueOf", "internal/reflectlite.Swapper", "(internal/reflectlite.Value).Len"], unfollowed := true, recurses := true, apart := false, narrowed := true }
def FnAscendingUptoSaid : Prop := fnAscendingUptoRow.holds Try.pinned (OpenSpec.upto fnAscendingSpec)

/-- 'laws.FnBlocks', WHERE WHAT IT READS IS OF BULK AT MOST 1048576: true; the input reads as it did. -/
def fnBlocksUptoRow : OpenClaim := { program := "ytlhddfmijdonlaa", sum := "6bafcbf2f5b42acd389993c334added1b3143eab515a7a8b8aa4c7ac55259b3f", func := "loop.example/lib-g03215/laws.FnBlocks", spec := "fnBlocks", inPlace := ["internal/reflectlite.ValueOf", "internal/reflectlite.Swapper", "(internal/reflectlite.Value).Len"], unfollowed := true, recurses := true, apart := false, narrowed := true }
def FnBlocksUptoSaid : Prop := fnBlocksUptoRow.holds Try.pinned (OpenSpec.upto fnBlocksSpec)

/-- 'laws.FnEqualKept', WHERE WHAT IT READS IS OF BULK AT MOST 1048576: true; the input reads as it did. -/
def fnEqualKeptUptoRow : OpenClaim := { program := "ytlhddfmijdonlaa", sum := "6bafcbf2f5b42acd389993c334added1b3143eab515a7a8b8aa4c7ac55259b3f", func := "loop.example/lib-g03215/laws.FnEqualKept", spec := "fnEqualKept", inPlace := ["internal/reflectlite.ValueOf", "internal/reflectlite.Swapper", "(internal/reflectlite.Value).Len"], unfollowed := true, recurses := true, apart := false, narrowed := true }
def FnEqualKeptUptoSaid : Prop := fnEqualKeptUptoRow.holds Try.pinned (OpenSpec.upto fnEqualKeptSpec)

end Rows
end Go.Proofs.Ytlhddfmijdonlaa

/-
  No cell of these rows narrows 'for every input' (looked for: loops, veiled, ifaces, maps, wideKeys, modest, calm, conditions, laid).
  DERIVED. THE GIVEN ROWS OF THIS SEAT. 12 by the template 'for every input the law returns true; each argument reads behind the call as it read before'; 0 by the template 'total and deterministic' (their statements: YtlekkpjghamhcaaTotals.lean).
  GIVEN WITH THE SEED: the statements are not yours to turn. If you find one false, say at which input.
  Laid BY PROGRAM, IN A SANDBOX (cutbox-rows.mjs): the forced cells as the released guide's own fill.sh prints them over the translation 8bea01ebe287bc56… (all of the seat's roots in one cut). By AI agents, Wed Nov 11 2026. No macro, syntax, notation, axiom, sorry.
-/
import Derived.Test.YtlekkpjghamhcaaChecked
import GoSem.Claim
import GoSem.ClaimJoined
import GoSem.ClaimMapViews
import Derived.JoinedTies
import Derived.KernelRfl
namespace Go.Proofs.Ytlekkpjghamhcaa
/- THE CELL 'sum', in the pinned program and in every row, IS THE sha256 OF THE DUMP (.gsa) THAT YtlekkpjghamhcaaProg.lean LOADS. Nothing in Lean hashes anything: it is a label: what it is worth is what the hold of that sum in a sandbox is worth. -/
noncomputable def Try.pinned : Pinned := { name := "ytlekkpjghamhcaa", sum := "8bea01ebe287bc5683af9725b8369ece2fc5eab4d7e3bb496cee96ec76adcb69", checked := Try.checked }
namespace Rows
def none {H : Type} : Left H := { results := [], args := [] }

/-- 'laws.FnStableFunc': WHATEVER THE INPUT: true; the input reads as it did. -/
def fnStableFuncSpec : ChangeSpec := { name := "fnStableFunc", fn := fun _ => fun
  | [d1, d2] => { results := [.lit (.bool true)], args := [d1, d2] }
  | _ => none }
def fnStableFuncRow : OpenClaim := { program := "ytlekkpjghamhcaa", sum := "8bea01ebe287bc5683af9725b8369ece2fc5eab4d7e3bb496cee96ec76adcb69", func := "loop.example/lib-g03215/laws.FnStableFunc", spec := "fnStableFunc", unfollowed := true, recurses := true, apart := false }
def FnStableFuncSaid : Prop := fnStableFuncRow.holds Try.pinned (OpenSpec.ofChange fnStableFuncSpec)

/-- ITS FALSE NEIGHBOUR: 'it returns false'. Refute it at one input. -/
def fnStableFuncWrong : ChangeSpec := { name := "fnStableFunc", fn := fun _ => fun
  | [d1, d2] => { results := [.lit (.bool false)], args := [d1, d2] }
  | _ => none }
def FnStableFuncWrongFalsely : Prop := fnStableFuncRow.holds Try.pinned (OpenSpec.ofChange fnStableFuncWrong)

/-- 'laws.FnTableFunc': WHATEVER THE INPUT: true; the input reads as it did. -/
def fnTableFuncSpec : ChangeSpec := { name := "fnTableFunc", fn := fun _ => fun
  | [d1, d2, d3] => { results := [.lit (.bool true)], args := [d1, d2, d3] }
  | _ => none }
def fnTableFuncRow : OpenClaim := { program := "ytlekkpjghamhcaa", sum := "8bea01ebe287bc5683af9725b8369ece2fc5eab4d7e3bb496cee96ec76adcb69", func := "loop.example/lib-g03215/laws.FnTableFunc", spec := "fnTableFunc", unfollowed := true, recurses := true, apart := false }
def FnTableFuncSaid : Prop := fnTableFuncRow.holds Try.pinned (OpenSpec.ofChange fnTableFuncSpec)

/-- ITS FALSE NEIGHBOUR: 'it returns false'. Refute it at one input. -/
def fnTableFuncWrong : ChangeSpec := { name := "fnTableFunc", fn := fun _ => fun
  | [d1, d2, d3] => { results := [.lit (.bool false)], args := [d1, d2, d3] }
  | _ => none }
def FnTableFuncWrongFalsely : Prop := fnTableFuncRow.holds Try.pinned (OpenSpec.ofChange fnTableFuncWrong)

/-- 'laws.FnAskedEnough': WHATEVER THE INPUT: true; the input reads as it did. -/
def fnAskedEnoughSpec : ChangeSpec := { name := "fnAskedEnough", fn := fun _ => fun
  | [d1, d2] => { results := [.lit (.bool true)], args := [d1, d2] }
  | _ => none }
def fnAskedEnoughRow : OpenClaim := { program := "ytlekkpjghamhcaa", sum := "8bea01ebe287bc5683af9725b8369ece2fc5eab4d7e3bb496cee96ec76adcb69", func := "loop.example/lib-g03215/laws.FnAskedEnough", spec := "fnAskedEnough", unfollowed := true, recurses := true, apart := false }
def FnAskedEnoughSaid : Prop := fnAskedEnoughRow.holds Try.pinned (OpenSpec.ofChange fnAskedEnoughSpec)

/-- ITS FALSE NEIGHBOUR: 'it returns false'. Refute it at one input. -/
def fnAskedEnoughWrong : ChangeSpec := { name := "fnAskedEnough", fn := fun _ => fun
  | [d1, d2] => { results := [.lit (.bool false)], args := [d1, d2] }
  | _ => none }
def FnAskedEnoughWrongFalsely : Prop := fnAskedEnoughRow.holds Try.pinned (OpenSpec.ofChange fnAskedEnoughWrong)

/-- 'laws.FnCallsBounded': WHATEVER THE INPUT: true; the input reads as it did. -/
def fnCallsBoundedSpec : ChangeSpec := { name := "fnCallsBounded", fn := fun _ => fun
  | [d1, d2] => { results := [.lit (.bool true)], args := [d1, d2] }
  | _ => none }
def fnCallsBoundedRow : OpenClaim := { program := "ytlekkpjghamhcaa", sum := "8bea01ebe287bc5683af9725b8369ece2fc5eab4d7e3bb496cee96ec76adcb69", func := "loop.example/lib-g03215/laws.FnCallsBounded", spec := "fnCallsBounded", unfollowed := true, recurses := true, apart := false }
def FnCallsBoundedSaid : Prop := fnCallsBoundedRow.holds Try.pinned (OpenSpec.ofChange fnCallsBoundedSpec)

/-- ITS FALSE NEIGHBOUR: 'it returns false'. Refute it at one input. -/
def fnCallsBoundedWrong : ChangeSpec := { name := "fnCallsBounded", fn := fun _ => fun
  | [d1, d2] => { results := [.lit (.bool false)], args := [d1, d2] }
  | _ => none }
def FnCallsBoundedWrongFalsely : Prop := fnCallsBoundedRow.holds Try.pinned (OpenSpec.ofChange fnCallsBoundedWrong)

/-- 'laws.FnLessTold': WHATEVER THE INPUT: true; the input reads as it did. -/
def fnLessToldSpec : ChangeSpec := { name := "fnLessTold", fn := fun _ => fun
  | [d1, d2, d3] => { results := [.lit (.bool true)], args := [d1, d2, d3] }
  | _ => none }
def fnLessToldRow : OpenClaim := { program := "ytlekkpjghamhcaa", sum := "8bea01ebe287bc5683af9725b8369ece2fc5eab4d7e3bb496cee96ec76adcb69", func := "loop.example/lib-g03215/laws.FnLessTold", spec := "fnLessTold", unfollowed := true, recurses := true, apart := false }
def FnLessToldSaid : Prop := fnLessToldRow.holds Try.pinned (OpenSpec.ofChange fnLessToldSpec)

/-- ITS FALSE NEIGHBOUR: 'it returns false'. Refute it at one input. -/
def fnLessToldWrong : ChangeSpec := { name := "fnLessTold", fn := fun _ => fun
  | [d1, d2, d3] => { results := [.lit (.bool false)], args := [d1, d2, d3] }
  | _ => none }
def FnLessToldWrongFalsely : Prop := fnLessToldRow.holds Try.pinned (OpenSpec.ofChange fnLessToldWrong)

/-- 'laws.FnNoSwaps': WHATEVER THE INPUT: true; the input reads as it did. -/
def fnNoSwapsSpec : ChangeSpec := { name := "fnNoSwaps", fn := fun _ => fun
  | [d1, d2] => { results := [.lit (.bool true)], args := [d1, d2] }
  | _ => none }
def fnNoSwapsRow : OpenClaim := { program := "ytlekkpjghamhcaa", sum := "8bea01ebe287bc5683af9725b8369ece2fc5eab4d7e3bb496cee96ec76adcb69", func := "loop.example/lib-g03215/laws.FnNoSwaps", spec := "fnNoSwaps", unfollowed := true, recurses := true, apart := false }
def FnNoSwapsSaid : Prop := fnNoSwapsRow.holds Try.pinned (OpenSpec.ofChange fnNoSwapsSpec)

/-- ITS FALSE NEIGHBOUR: 'it returns false'. Refute it at one input. -/
def fnNoSwapsWrong : ChangeSpec := { name := "fnNoSwaps", fn := fun _ => fun
  | [d1, d2] => { results := [.lit (.bool false)], args := [d1, d2] }
  | _ => none }
def FnNoSwapsWrongFalsely : Prop := fnNoSwapsRow.holds Try.pinned (OpenSpec.ofChange fnNoSwapsWrong)

/-- 'laws.FnOneLen': WHATEVER THE INPUT: true; the input reads as it did. -/
def fnOneLenSpec : ChangeSpec := { name := "fnOneLen", fn := fun _ => fun
  | [d1, d2, d3] => { results := [.lit (.bool true)], args := [d1, d2, d3] }
  | _ => none }
def fnOneLenRow : OpenClaim := { program := "ytlekkpjghamhcaa", sum := "8bea01ebe287bc5683af9725b8369ece2fc5eab4d7e3bb496cee96ec76adcb69", func := "loop.example/lib-g03215/laws.FnOneLen", spec := "fnOneLen", unfollowed := true, recurses := true, apart := false }
def FnOneLenSaid : Prop := fnOneLenRow.holds Try.pinned (OpenSpec.ofChange fnOneLenSpec)

/-- ITS FALSE NEIGHBOUR: 'it returns false'. Refute it at one input. -/
def fnOneLenWrong : ChangeSpec := { name := "fnOneLen", fn := fun _ => fun
  | [d1, d2, d3] => { results := [.lit (.bool false)], args := [d1, d2, d3] }
  | _ => none }
def FnOneLenWrongFalsely : Prop := fnOneLenRow.holds Try.pinned (OpenSpec.ofChange fnOneLenWrong)

/-- 'laws.FnReplayed': WHATEVER THE INPUT: true; the input reads as it did. -/
def fnReplayedSpec : ChangeSpec := { name := "fnReplayed", fn := fun _ => fun
  | [d1, d2, d3] => { results := [.lit (.bool true)], args := [d1, d2, d3] }
  | _ => none }
def fnReplayedRow : OpenClaim := { program := "ytlekkpjghamhcaa", sum := "8bea01ebe287bc5683af9725b8369ece2fc5eab4d7e3bb496cee96ec76adcb69", func := "loop.example/lib-g03215/laws.FnReplayed", spec := "fnReplayed", unfollowed := true, recurses := true, apart := false }
def FnReplayedSaid : Prop := fnReplayedRow.holds Try.pinned (OpenSpec.ofChange fnReplayedSpec)

/-- ITS FALSE NEIGHBOUR: 'it returns false'. Refute it at one input. -/
def fnReplayedWrong : ChangeSpec := { name := "fnReplayed", fn := fun _ => fun
  | [d1, d2, d3] => { results := [.lit (.bool false)], args := [d1, d2, d3] }
  | _ => none }
def FnReplayedWrongFalsely : Prop := fnReplayedRow.holds Try.pinned (OpenSpec.ofChange fnReplayedWrong)

/-- 'laws.FnStable': WHATEVER THE INPUT: true; the input reads as it did. -/
def fnStableSpec : ChangeSpec := { name := "fnStable", fn := fun _ => fun
  | [d1, d2] => { results := [.lit (.bool true)], args := [d1, d2] }
  | _ => none }
def fnStableRow : OpenClaim := { program := "ytlekkpjghamhcaa", sum := "8bea01ebe287bc5683af9725b8369ece2fc5eab4d7e3bb496cee96ec76adcb69", func := "loop.example/lib-g03215/laws.FnStable", spec := "fnStable", unfollowed := true, recurses := true, apart := false }
def FnStableSaid : Prop := fnStableRow.holds Try.pinned (OpenSpec.ofChange fnStableSpec)

/-- ITS FALSE NEIGHBOUR: 'it returns false'. Refute it at one input. -/
def fnStableWrong : ChangeSpec := { name := "fnStable", fn := fun _ => fun
  | [d1, d2] => { results := [.lit (.bool false)], args := [d1, d2] }
  | _ => none }
def FnStableWrongFalsely : Prop := fnStableRow.holds Try.pinned (OpenSpec.ofChange fnStableWrong)

/-- 'laws.FnTableStable': WHATEVER THE INPUT: true; the input reads as it did. -/
def fnTableStableSpec : ChangeSpec := { name := "fnTableStable", fn := fun _ => fun
  | [d1, d2, d3] => { results := [.lit (.bool true)], args := [d1, d2, d3] }
  | _ => none }
def fnTableStableRow : OpenClaim := { program := "ytlekkpjghamhcaa", sum := "8bea01ebe287bc5683af9725b8369ece2fc5eab4d7e3bb496cee96ec76adcb69", func := "loop.example/lib-g03215/laws.FnTableStable", spec := "fnTableStable", unfollowed := true, recurses := true, apart := false }
def FnTableStableSaid : Prop := fnTableStableRow.holds Try.pinned (OpenSpec.ofChange fnTableStableSpec)

/-- ITS FALSE NEIGHBOUR: 'it returns false'. Refute it at one input. -/
def fnTableStableWrong : ChangeSpec := { name := "fnTableStable", fn := fun _ => fun
  | [d1, d2, d3] => { results := [.lit (.bool false)], args := [d1, d2, d3] }
  | _ => none }
def FnTableStableWrongFalsely : Prop := fnTableStableRow.holds Try.pinned (OpenSpec.ofChange fnTableStableWrong)

/-- 'laws.FnSliceStable': WHATEVER THE INPUT: true; the input reads as it did. -/
def fnSliceStableSpec : ChangeSpec := { name := "fnSliceStable", fn := fun _ => fun
  | [d1, d2] => { results := [.lit (.bool true)], args := [d1, d2] }
  | _ => none }
def fnSliceStableRow : OpenClaim := { program := "ytlekkpjghamhcaa", sum := "8bea01ebe287bc5683af9725b8369ece2fc5eab4d7e3bb496cee96ec76adcb69", func := "loop.example/lib-g03215/laws.FnSliceStable", spec := "fnSliceStable", inPlace := ["internal/reflectlite.ValueOf", "internal/reflectlite.Swapper", "(internal/reflectlite.Value).Len"], unfollowed := true, recurses := true, apart := false }
def FnSliceStableSaid : Prop := fnSliceStableRow.holds Try.pinned (OpenSpec.ofChange fnSliceStableSpec)

/-- ITS FALSE NEIGHBOUR: 'it returns false'. Refute it at one input. -/
def fnSliceStableWrong : ChangeSpec := { name := "fnSliceStable", fn := fun _ => fun
  | [d1, d2] => { results := [.lit (.bool false)], args := [d1, d2] }
  | _ => none }
def FnSliceStableWrongFalsely : Prop := fnSliceStableRow.holds Try.pinned (OpenSpec.ofChange fnSliceStableWrong)

/-- 'laws.FnTableSlice': WHATEVER THE INPUT: true; the input reads as it did. -/
def fnTableSliceSpec : ChangeSpec := { name := "fnTableSlice", fn := fun _ => fun
  | [d1, d2, d3] => { results := [.lit (.bool true)], args := [d1, d2, d3] }
  | _ => none }
def fnTableSliceRow : OpenClaim := { program := "ytlekkpjghamhcaa", sum := "8bea01ebe287bc5683af9725b8369ece2fc5eab4d7e3bb496cee96ec76adcb69", func := "loop.example/lib-g03215/laws.FnTableSlice", spec := "fnTableSlice", inPlace := ["internal/reflectlite.ValueOf", "internal/reflectlite.Swapper", "(internal/reflectlite.Value).Len"], unfollowed := true, recurses := true, apart := false }
def FnTableSliceSaid : Prop := fnTableSliceRow.holds Try.pinned (OpenSpec.ofChange fnTableSliceSpec)

/-- ITS FALSE NEIGHBOUR: 'it returns false'. Refute it at one input. -/
def fnTableSliceWrong : ChangeSpec := { name := "fnTableSlice", fn := fun _ => fun
  | [d1, d2, d3] => { results := [.lit (.bool false)], args := [d1, d2, d3] }
  | _ => none }
def FnTableSliceWrongFalsely : Prop := fnTableSliceRow.holds Try.pinned (OpenSpec.ofChange fnTableSliceWrong)

/- THE SECOND FORM. 'bulk': how many values and letters a reading holds, each counted each time it is reached (what is shared counts as often as it is met; a slice's spare places count too). A statement '..UptoSaid' is the law's where the arguments, and the package variables that the reading takes, are together of bulk at most 1048576: NARROWER than '..Said'. Prove '..Said' where nothing that the law and all that it calls make is longer than what came in: it says more and counts as full. Else prove '..UptoSaid'. A law counts once. -/
mutual
def uptoBulk {H : Type} : DataW H → Nat
  | .lit (.string bytes) => bytes.length + 1
  | .lit _ => 1
  | .nil => 1
  | .ptr d => uptoBulk d + 1
  | .slice elems spare => uptoBulkAll elems + uptoBulkAll spare + 1
  | .agg parts => uptoBulkAll parts + 1
  | .iface _ d => uptoBulk d + 1
  | .map entries => uptoBulkEntries entries + 1
  | .held _ => 1
def uptoBulkAll {H : Type} : List (DataW H) → Nat
  | [] => 0
  | d :: r => uptoBulk d + uptoBulkAll r
def uptoBulkEntries {H : Type} : List (Lit × DataW H) → Nat
  | [] => 0
  | x :: r => uptoBulkEntry x + uptoBulkEntries r
def uptoBulkEntry {H : Type} : Lit × DataW H → Nat
  | (.string bytes, d) => bytes.length + uptoBulk d + 1
  | (_, d) => uptoBulk d + 1
 end
def uptoSmall : (H : Type) → List (DataW H) → Bool := fun _ ds => decide (uptoBulkAll ds ≤ 1048576)
def OpenSpec.upto (s : _root_.Go.ChangeSpec) : _root_.Go.OpenSpec := { _root_.Go.OpenSpec.ofChange s with cond := some uptoSmall }

/-- 'laws.FnStableFunc', WHERE WHAT IT READS IS OF BULK AT MOST 1048576: true; the input reads as it did. -/
def fnStableFuncUptoRow : OpenClaim := { program := "ytlekkpjghamhcaa", sum := "8bea01ebe287bc5683af9725b8369ece2fc5eab4d7e3bb496cee96ec76adcb69", func := "loop.example/lib-g03215/laws.FnStableFunc", spec := "fnStableFunc", unfollowed := true, recurses := true, apart := false, narrowed := true }
def FnStableFuncUptoSaid : Prop := fnStableFuncUptoRow.holds Try.pinned (OpenSpec.upto fnStableFuncSpec)

/-- 'laws.FnTableFunc', WHERE WHAT IT READS IS OF BULK AT MOST 1048576: true; the input reads as it did. -/
def fnTableFuncUptoRow : OpenClaim := { program := "ytlekkpjghamhcaa", sum := "8bea01ebe287bc5683af9725b8369ece2fc5eab4d7e3bb496cee96ec76adcb69", func := "loop.example/lib-g03215/laws.FnTableFunc", spec := "fnTableFunc", unfollowed := true, recurses := true, apart := false, narrowed := true }
def FnTableFuncUptoSaid : Prop := fnTableFuncUptoRow.holds Try.pinned (OpenSpec.upto fnTableFuncSpec)

/-- 'laws.FnAskedEnough', WHERE WHAT IT READS IS OF BULK AT MOST 1048576: true; the input reads as it did. -/
def fnAskedEnoughUptoRow : OpenClaim := { program := "ytlekkpjghamhcaa", sum := "8bea01ebe287bc5683af9725b8369ece2fc5eab4d7e3bb496cee96ec76adcb69", func := "loop.example/lib-g03215/laws.FnAskedEnough", spec := "fnAskedEnough", unfollowed := true, recurses := true, apart := false, narrowed := true }
def FnAskedEnoughUptoSaid : Prop := fnAskedEnoughUptoRow.holds Try.pinned (OpenSpec.upto fnAskedEnoughSpec)

/-- 'laws.FnCallsBounded', WHERE WHAT IT READS IS OF BULK AT MOST 1048576: true; the input reads as it did. -/
def fnCallsBoundedUptoRow : OpenClaim := { program := "ytlekkpjghamhcaa", sum := "8bea01ebe287bc5683af9725b8369ece2fc5eab4d7e3bb496cee96ec76adcb69", func := "loop.example/lib-g03215/laws.FnCallsBounded", spec := "fnCallsBounded", unfollowed := true, recurses := true, apart := false, narrowed := true }
def FnCallsBoundedUptoSaid : Prop := fnCallsBoundedUptoRow.holds Try.pinned (OpenSpec.upto fnCallsBoundedSpec)

/-- 'laws.FnLessTold', WHERE WHAT IT READS IS OF BULK AT MOST 1048576: true; the input reads as it did. -/
def fnLessToldUptoRow : OpenClaim := { program := "ytlekkpjghamhcaa", sum := "8bea01ebe287bc5683af9725b8369ece2fc5eab4d7e3bb496cee96ec76adcb69", func := "loop.example/lib-g03215/laws.FnLessTold", spec := "fnLessTold", unfollowed := true, recurses := true, apart := false, narrowed := true }
def FnLessToldUptoSaid : Prop := fnLessToldUptoRow.holds Try.pinned (OpenSpec.upto fnLessToldSpec)

/-- 'laws.FnNoSwaps', WHERE WHAT IT READS IS OF BULK AT MOST 1048576: true; the input reads as it did. -/
def fnNoSwapsUptoRow : OpenClaim := { program := "ytlekkpjghamhcaa", sum := "8bea01ebe287bc5683af9725b8369ece2fc5eab4d7e3bb496cee96ec76adcb69", func := "loop.example/lib-g03215/laws.FnNoSwaps", spec := "fnNoSwaps", unfollowed := true, recurses := true, apart := false, narrowed := true }
def FnNoSwapsUptoSaid : Prop := fnNoSwapsUptoRow.holds Try.pinned (OpenSpec.upto fnNoSwapsSpec)

/-- 'laws.FnOneLen', WHERE WHAT IT READS IS OF BULK AT MOST 1048576: true; the input reads as it did. -/
def fnOneLenUptoRow : OpenClaim := { program := "ytlekkpjghamhcaa", sum := "8bea01ebe287bc5683af9725b8369ece2fc5eab4d7e3bb496cee96ec76adcb69", func := "loop.example/lib-g03215/laws.FnOneLen", spec := "fnOneLen", unfollowed := true, recurses := true, apart := false, narrowed := true }
def FnOneLenUptoSaid : Prop := fnOneLenUptoRow.holds Try.pinned (OpenSpec.upto fnOneLenSpec)

/-- 'laws.FnReplayed', WHERE WHAT IT READS IS OF BULK AT MOST 1048576: true; the input reads as it did. -/
def fnReplayedUptoRow : OpenClaim := { program := "ytlekkpjghamhcaa", sum := "8bea01ebe287bc5683af9725b8369ece2fc5eab4d7e3bb496cee96ec76adcb69", func := "loop.example/lib-g03215/laws.FnReplayed", spec := "fnReplayed", unfollowed := true, recurses := true, apart := false, narrowed := true }
def FnReplayedUptoSaid : Prop := fnReplayedUptoRow.holds Try.pinned (OpenSpec.upto fnReplayedSpec)

/-- 'laws.FnStable', WHERE WHAT IT READS IS OF BULK AT MOST 1048576: true; the input reads as it did. -/
def fnStableUptoRow : OpenClaim := { program := "ytlekkpjghamhcaa", sum := "8bea01ebe287bc5683af9725b8369ece2fc5eab4d7e3bb496cee96ec76adcb69", func := "loop.example/lib-g03215/laws.FnStable", spec := "fnStable", unfollowed := true, recurses := true, apart := false, narrowed := true }
def FnStableUptoSaid : Prop := fnStableUptoRow.holds Try.pinned (OpenSpec.upto fnStableSpec)

/-- 'laws.FnTableStable', WHERE WHAT IT READS IS OF BULK AT MOST 1048576: true; the input reads as it did. -/
def fnTableStableUptoRow : OpenClaim := { program := "ytlekkpjghamhcaa", sum := "8bea01ebe287bc5683af9725b8369ece2fc5eab4d7e3bb496cee96ec76adcb69", func := "loop.example/lib-g03215/laws.FnTableStable", spec := "fnTableStable", unfollowed := true, recurses := true, apart := false, narrowed := true }
def FnTableStableUptoSaid : Prop := fnTableStableUptoRow.holds Try.pinned (OpenSpec.upto fnTableStableSpec)

/-- 'laws.FnSliceStable', WHERE WHAT IT READS IS OF BULK AT MOST 1048576: true; the input reads as it did. -/
def fnSliceStableUptoRow : OpenClaim := { program := "ytlekkpjghamhcaa", sum := "8bea01ebe287bc5683af9725b8369ece2fc5eab4d7e3bb496cee96ec76adcb69", func := "loop.example/lib-g03215/laws.FnSliceStable", spec := "fnSliceStable", inPlace := ["internal/reflectlite.ValueOf", "internal/reflectlite.Swapper", "(internal/reflectlite.Value).Len"], unfollowed := true, recurses := true, apart := false, narrowed := true }
def FnSliceStableUptoSaid : Prop := fnSliceStableUptoRow.holds Try.pinned (OpenSpec.upto fnSliceStableSpec)

/-- 'laws.FnTableSlice', WHERE WHAT IT READS IS OF BULK AT MOST 1048576: true; the input reads as it did. -/
def fnTableSliceUptoRow : OpenClaim := { program := "ytlekkpjghamhcaa", sum := "8bea01ebe287bc5683af9725b8369ece2fc5eab4d7e3bb496cee96ec76adcb69", func := "loop.example/lib-g03215/laws.FnTableSlice", spec := "fnTableSlice", inPlace := ["internal/reflectlite.ValueOf", "internal/reflectlite.Swapper", "(internal/reflectlite.Value).Len"], unfollowed := true, recurses := true, apart := false, narrowed := true }
def FnTableSliceUptoSaid : Prop := fnTableSliceUptoRow.holds Try.pinned (OpenSpec.upto fnTableSliceSpec)

end Rows
end Go.Proofs.Ytlekkpjghamhcaa

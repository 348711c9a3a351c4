/-
  No cell of these rows narrows 'for every input' (looked for: loops, veiled, ifaces, maps, wideKeys, modest, calm, conditions, laid).
  DERIVED. THE GIVEN ROWS OF THIS SEAT. 7 by the template 'for every input the law returns true; each argument reads behind the call as it read before'; 0 by the template 'total and deterministic' (their statements: YtdpomoengbpcaaaTotals.lean).
  GIVEN WITH THE SEED: the statements are not yours to turn. If you find one false, say at which input.
  Laid BY PROGRAM, IN A SANDBOX (cutbox-rows.mjs): the forced cells as the released guide's own fill.sh prints them over the translation c78e978044b6b77f… (all of the seat's roots in one cut). By AI agents, Wed Nov 11 2026. No macro, syntax, notation, axiom, sorry.
-/
import Derived.Test.YtdpomoengbpcaaaChecked
import GoSem.Claim
import GoSem.ClaimJoined
import GoSem.ClaimMapViews
import Derived.JoinedTies
import Derived.KernelRfl
namespace Go.Proofs.Ytdpomoengbpcaaa
/- THE CELL 'sum', in the pinned program and in every row, IS THE sha256 OF THE DUMP (.gsa) THAT YtdpomoengbpcaaaProg.lean LOADS. Nothing in Lean hashes anything: it is a label: what it is worth is what the hold of that sum in a sandbox is worth. -/
noncomputable def Try.pinned : Pinned := { name := "ytdpomoengbpcaaa", sum := "c78e978044b6b77fc5a605a4b402da3a8cac234f2b720c334748ffc50f7bf9ae", checked := Try.checked }
namespace Rows
def none {H : Type} : Left H := { results := [], args := [] }

/-- 'laws.FnNumbers': WHATEVER THE INPUT: true; the input reads as it did. -/
def fnNumbersSpec : ChangeSpec := { name := "fnNumbers", fn := fun _ => fun
  | [d1, d2, d3, d4] => { results := [.lit (.bool true)], args := [d1, d2, d3, d4] }
  | _ => none }
def fnNumbersRow : OpenClaim := { program := "ytdpomoengbpcaaa", sum := "c78e978044b6b77fc5a605a4b402da3a8cac234f2b720c334748ffc50f7bf9ae", func := "loop.example/lib-g03215/laws.FnNumbers", spec := "fnNumbers", inPlace := ["internal/reflectlite.ValueOf", "internal/reflectlite.Swapper", "(internal/reflectlite.Value).Len"], unfollowed := true, recurses := true, apart := false }
def FnNumbersSaid : Prop := fnNumbersRow.holds Try.pinned (OpenSpec.ofChange fnNumbersSpec)

/-- ITS FALSE NEIGHBOUR: 'it returns false'. Refute it at one input. -/
def fnNumbersWrong : ChangeSpec := { name := "fnNumbers", fn := fun _ => fun
  | [d1, d2, d3, d4] => { results := [.lit (.bool false)], args := [d1, d2, d3, d4] }
  | _ => none }
def FnNumbersWrongFalsely : Prop := fnNumbersRow.holds Try.pinned (OpenSpec.ofChange fnNumbersWrong)

/-- 'laws.FnOneMore': WHATEVER THE INPUT: true; the input reads as it did. -/
def fnOneMoreSpec : ChangeSpec := { name := "fnOneMore", fn := fun _ => fun
  | [d1, d2, d3] => { results := [.lit (.bool true)], args := [d1, d2, d3] }
  | _ => none }
def fnOneMoreRow : OpenClaim := { program := "ytdpomoengbpcaaa", sum := "c78e978044b6b77fc5a605a4b402da3a8cac234f2b720c334748ffc50f7bf9ae", func := "loop.example/lib-g03215/laws.FnOneMore", spec := "fnOneMore", inPlace := ["internal/reflectlite.ValueOf", "internal/reflectlite.Swapper", "(internal/reflectlite.Value).Len"], unfollowed := true, recurses := true, apart := false }
def FnOneMoreSaid : Prop := fnOneMoreRow.holds Try.pinned (OpenSpec.ofChange fnOneMoreSpec)

/-- ITS FALSE NEIGHBOUR: 'it returns false'. Refute it at one input. -/
def fnOneMoreWrong : ChangeSpec := { name := "fnOneMore", fn := fun _ => fun
  | [d1, d2, d3] => { results := [.lit (.bool false)], args := [d1, d2, d3] }
  | _ => none }
def FnOneMoreWrongFalsely : Prop := fnOneMoreRow.holds Try.pinned (OpenSpec.ofChange fnOneMoreWrong)

/-- 'laws.FnRenamed': WHATEVER THE INPUT: true; the input reads as it did. -/
def fnRenamedSpec : ChangeSpec := { name := "fnRenamed", fn := fun _ => fun
  | [d1, d2, d3] => { results := [.lit (.bool true)], args := [d1, d2, d3] }
  | _ => none }
def fnRenamedRow : OpenClaim := { program := "ytdpomoengbpcaaa", sum := "c78e978044b6b77fc5a605a4b402da3a8cac234f2b720c334748ffc50f7bf9ae", func := "loop.example/lib-g03215/laws.FnRenamed", spec := "fnRenamed", inPlace := ["internal/reflectlite.ValueOf", "internal/reflectlite.Swapper", "(internal/reflectlite.Value).Len"], unfollowed := true, recurses := true, apart := false }
def FnRenamedSaid : Prop := fnRenamedRow.holds Try.pinned (OpenSpec.ofChange fnRenamedSpec)

/-- ITS FALSE NEIGHBOUR: 'it returns false'. Refute it at one input. -/
def fnRenamedWrong : ChangeSpec := { name := "fnRenamed", fn := fun _ => fun
  | [d1, d2, d3] => { results := [.lit (.bool false)], args := [d1, d2, d3] }
  | _ => none }
def FnRenamedWrongFalsely : Prop := fnRenamedRow.holds Try.pinned (OpenSpec.ofChange fnRenamedWrong)

/-- 'laws.FnRoadsAgree': WHATEVER THE INPUT: true; the input reads as it did. -/
def fnRoadsAgreeSpec : ChangeSpec := { name := "fnRoadsAgree", fn := fun _ => fun
  | [d1, d2, d3] => { results := [.lit (.bool true)], args := [d1, d2, d3] }
  | _ => none }
def fnRoadsAgreeRow : OpenClaim := { program := "ytdpomoengbpcaaa", sum := "c78e978044b6b77fc5a605a4b402da3a8cac234f2b720c334748ffc50f7bf9ae", func := "loop.example/lib-g03215/laws.FnRoadsAgree", spec := "fnRoadsAgree", inPlace := ["internal/reflectlite.ValueOf", "internal/reflectlite.Swapper", "(internal/reflectlite.Value).Len"], unfollowed := true, recurses := true, apart := false }
def FnRoadsAgreeSaid : Prop := fnRoadsAgreeRow.holds Try.pinned (OpenSpec.ofChange fnRoadsAgreeSpec)

/-- ITS FALSE NEIGHBOUR: 'it returns false'. Refute it at one input. -/
def fnRoadsAgreeWrong : ChangeSpec := { name := "fnRoadsAgree", fn := fun _ => fun
  | [d1, d2, d3] => { results := [.lit (.bool false)], args := [d1, d2, d3] }
  | _ => none }
def FnRoadsAgreeWrongFalsely : Prop := fnRoadsAgreeRow.holds Try.pinned (OpenSpec.ofChange fnRoadsAgreeWrong)

/-- 'laws.FnSome': WHATEVER THE INPUT: true; the input reads as it did. -/
def fnSomeSpec : ChangeSpec := { name := "fnSome", fn := fun _ => fun
  | [d1, d2, d3] => { results := [.lit (.bool true)], args := [d1, d2, d3] }
  | _ => none }
def fnSomeRow : OpenClaim := { program := "ytdpomoengbpcaaa", sum := "c78e978044b6b77fc5a605a4b402da3a8cac234f2b720c334748ffc50f7bf9ae", func := "loop.example/lib-g03215/laws.FnSome", spec := "fnSome", inPlace := ["internal/reflectlite.ValueOf", "internal/reflectlite.Swapper", "(internal/reflectlite.Value).Len"], unfollowed := true, recurses := true, apart := false }
def FnSomeSaid : Prop := fnSomeRow.holds Try.pinned (OpenSpec.ofChange fnSomeSpec)

/-- ITS FALSE NEIGHBOUR: 'it returns false'. Refute it at one input. -/
def fnSomeWrong : ChangeSpec := { name := "fnSome", fn := fun _ => fun
  | [d1, d2, d3] => { results := [.lit (.bool false)], args := [d1, d2, d3] }
  | _ => none }
def FnSomeWrongFalsely : Prop := fnSomeRow.holds Try.pinned (OpenSpec.ofChange fnSomeWrong)

/-- 'laws.FnSortedKept': WHATEVER THE INPUT: true; the input reads as it did. -/
def fnSortedKeptSpec : ChangeSpec := { name := "fnSortedKept", fn := fun _ => fun
  | [d1, d2] => { results := [.lit (.bool true)], args := [d1, d2] }
  | _ => none }
def fnSortedKeptRow : OpenClaim := { program := "ytdpomoengbpcaaa", sum := "c78e978044b6b77fc5a605a4b402da3a8cac234f2b720c334748ffc50f7bf9ae", func := "loop.example/lib-g03215/laws.FnSortedKept", spec := "fnSortedKept", inPlace := ["internal/reflectlite.ValueOf", "internal/reflectlite.Swapper", "(internal/reflectlite.Value).Len"], unfollowed := true, recurses := true, apart := false }
def FnSortedKeptSaid : Prop := fnSortedKeptRow.holds Try.pinned (OpenSpec.ofChange fnSortedKeptSpec)

/-- ITS FALSE NEIGHBOUR: 'it returns false'. Refute it at one input. -/
def fnSortedKeptWrong : ChangeSpec := { name := "fnSortedKept", fn := fun _ => fun
  | [d1, d2] => { results := [.lit (.bool false)], args := [d1, d2] }
  | _ => none }
def FnSortedKeptWrongFalsely : Prop := fnSortedKeptRow.holds Try.pinned (OpenSpec.ofChange fnSortedKeptWrong)

/-- 'laws.FnStretched': WHATEVER THE INPUT: true; the input reads as it did. -/
def fnStretchedSpec : ChangeSpec := { name := "fnStretched", fn := fun _ => fun
  | [d1, d2, d3] => { results := [.lit (.bool true)], args := [d1, d2, d3] }
  | _ => none }
def fnStretchedRow : OpenClaim := { program := "ytdpomoengbpcaaa", sum := "c78e978044b6b77fc5a605a4b402da3a8cac234f2b720c334748ffc50f7bf9ae", func := "loop.example/lib-g03215/laws.FnStretched", spec := "fnStretched", inPlace := ["internal/reflectlite.ValueOf", "internal/reflectlite.Swapper", "(internal/reflectlite.Value).Len"], unfollowed := true, recurses := true, apart := false }
def FnStretchedSaid : Prop := fnStretchedRow.holds Try.pinned (OpenSpec.ofChange fnStretchedSpec)

/-- ITS FALSE NEIGHBOUR: 'it returns false'. Refute it at one input. -/
def fnStretchedWrong : ChangeSpec := { name := "fnStretched", fn := fun _ => fun
  | [d1, d2, d3] => { results := [.lit (.bool false)], args := [d1, d2, d3] }
  | _ => none }
def FnStretchedWrongFalsely : Prop := fnStretchedRow.holds Try.pinned (OpenSpec.ofChange fnStretchedWrong)

/- THE SECOND FORM. 'bulk': how many values and letters a reading holds, each counted each time it is reached (what is shared counts as often as it is met; a slice's spare places count too). A statement '..UptoSaid' is the law's where the arguments, and the package variables that the reading takes, are together of bulk at most 1048576: NARROWER than '..Said'. Prove '..Said' where nothing that the law and all that it calls make is longer than what came in: it says more and counts as full. Else prove '..UptoSaid'. A law counts once. -/
mutual
def uptoBulk {H : Type} : DataW H → Nat
  | .lit (.string bytes) => bytes.length + 1
  | .lit _ => 1
  | .nil => 1
  | .ptr d => uptoBulk d + 1
  | .slice elems spare => uptoBulkAll elems + uptoBulkAll spare + 1
  | .agg parts => uptoBulkAll parts + 1
  | .iface _ d => uptoBulk d + 1
  | .map entries => uptoBulkEntries entries + 1
  | .held _ => 1
def uptoBulkAll {H : Type} : List (DataW H) → Nat
  | [] => 0
  | d :: r => uptoBulk d + uptoBulkAll r
def uptoBulkEntries {H : Type} : List (Lit × DataW H) → Nat
  | [] => 0
  | x :: r => uptoBulkEntry x + uptoBulkEntries r
def uptoBulkEntry {H : Type} : Lit × DataW H → Nat
  | (.string bytes, d) => bytes.length + uptoBulk d + 1
  | (_, d) => uptoBulk d + 1
 end
def uptoSmall : (H : Type) → List (DataW H) → Bool := fun _ ds => decide (uptoBulkAll ds ≤ 1048576)
def OpenSpec.upto (s : _root_.Go.ChangeSpec) : _root_.Go.OpenSpec := { _root_.Go.OpenSpec.ofChange s with cond := some uptoSmall }

/-- 'laws.FnNumbers', WHERE WHAT IT READS IS OF BULK AT MOST 1048576: true; the input reads as it did. -/
def fnNumbersUptoRow : OpenClaim := { program := "ytdpomoengbpcaaa", sum := "c78e978044b6b77fc5a605a4b402da3a8cac234f2b720c334748ffc50f7bf9ae", func := "loop.example/lib-g03215/laws.FnNumbers", spec := "fnNumbers", inPlace := ["internal/reflectlite.ValueOf", "internal/reflectlite.Swapper", "(internal/reflectlite.Value).Len"], unfollowed := true, recurses := true, apart := false, narrowed := true }
def FnNumbersUptoSaid : Prop := fnNumbersUptoRow.holds Try.pinned (OpenSpec.upto fnNumbersSpec)

/-- 'laws.FnOneMore', WHERE WHAT IT READS IS OF BULK AT MOST 1048576: true; the input reads as it did. -/
def fnOneMoreUptoRow : OpenClaim := { program := "ytdpomoengbpcaaa", sum := "c78e978044b6b77fc5a605a4b402da3a8cac234f2b720c334748ffc50f7bf9ae", func := "loop.example/lib-g03215/laws.FnOneMore", spec := "fnOneMore", inPlace := ["internal/reflectlite.ValueOf", "internal/reflectlite.Swapper", "(internal/reflectlite.Value).Len"], unfollowed := true, recurses := true, apart := false, narrowed := true }
def FnOneMoreUptoSaid : Prop := fnOneMoreUptoRow.holds Try.pinned (OpenSpec.upto fnOneMoreSpec)

/-- 'laws.FnRenamed', WHERE WHAT IT READS IS OF BULK AT MOST 1048576: true; the input reads as it did. -/
def fnRenamedUptoRow : OpenClaim := { program := "ytdpomoengbpcaaa", sum := "c78e978044b6b77fc5a605a4b402da3a8cac234f2b720c334748ffc50f7bf9ae", func := "loop.example/lib-g03215/laws.FnRenamed", spec := "fnRenamed", inPlace := ["internal/reflectlite.ValueOf", "internal/reflectlite.Swapper", "(internal/reflectlite.Value).Len"], unfollowed := true, recurses := true, apart := false, narrowed := true }
def FnRenamedUptoSaid : Prop := fnRenamedUptoRow.holds Try.pinned (OpenSpec.upto fnRenamedSpec)

/-- 'laws.FnRoadsAgree', WHERE WHAT IT READS IS OF BULK AT MOST 1048576: true; the input reads as it did. -/
def fnRoadsAgreeUptoRow : OpenClaim := { program := "ytdpomoengbpcaaa", sum := "c78e978044b6b77fc5a605a4b402da3a8cac234f2b720c334748ffc50f7bf9ae", func := "loop.example/lib-g03215/laws.FnRoadsAgree", spec := "fnRoadsAgree", inPlace := ["internal/reflectlite.ValueOf", "internal/reflectlite.Swapper", "(internal/reflectlite.Value).Len"], unfollowed := true, recurses := true, apart := false, narrowed := true }
def FnRoadsAgreeUptoSaid : Prop := fnRoadsAgreeUptoRow.holds Try.pinned (OpenSpec.upto fnRoadsAgreeSpec)

/-- 'laws.FnSome', WHERE WHAT IT READS IS OF BULK AT MOST 1048576: true; the input reads as it did. -/
def fnSomeUptoRow : OpenClaim := { program := "ytdpomoengbpcaaa", sum := "c78e978044b6b77fc5a605a4b402da3a8cac234f2b720c334748ffc50f7bf9ae", func := "loop.example/lib-g03215/laws.FnSome", spec := "fnSome", inPlace := ["internal/reflectlite.ValueOf", "internal/reflectlite.Swapper", "(internal/reflectlite.Value).Len"], unfollowed := true, recurses := true, apart := false, narrowed := true }
def FnSomeUptoSaid : Prop := fnSomeUptoRow.holds Try.pinned (OpenSpec.upto fnSomeSpec)

/-- 'laws.FnSortedKept', WHERE WHAT IT READS IS OF BULK AT MOST 1048576: true; the input reads as it did. -/
def fnSortedKeptUptoRow : OpenClaim := { program := "ytdpomoengbpcaaa", sum := "c78e978044b6b77fc5a605a4b402da3a8cac234f2b720c334748ffc50f7bf9ae", func := "loop.example/lib-g03215/laws.FnSortedKept", spec := "fnSortedKept", inPlace := ["internal/reflectlite.ValueOf", "internal/reflectlite.Swapper", "(internal/reflectlite.Value).Len"], unfollowed := true, recurses := true, apart := false, narrowed := true }
def FnSortedKeptUptoSaid : Prop := fnSortedKeptUptoRow.holds Try.pinned (OpenSpec.upto fnSortedKeptSpec)

/-- 'laws.FnStretched', WHERE WHAT IT READS IS OF BULK AT MOST 1048576: true; the input reads as it did. -/
def fnStretchedUptoRow : OpenClaim := { program := "ytdpomoengbpcaaa", sum := "c78e978044b6b77fc5a605a4b402da3a8cac234f2b720c334748ffc50f7bf9ae", func := "loop.example/lib-g03215/laws.FnStretched", spec := "fnStretched", inPlace := ["internal/reflectlite.ValueOf", "internal/reflectlite.Swapper", "(internal/reflectlite.Value).Len"], unfollowed := true, recurses := true, apart := false, narrowed := true }
def FnStretchedUptoSaid : Prop := fnStretchedUptoRow.holds Try.pinned (OpenSpec.upto fnStretchedSpec)

end Rows
end Go.Proofs.Ytdpomoengbpcaaa

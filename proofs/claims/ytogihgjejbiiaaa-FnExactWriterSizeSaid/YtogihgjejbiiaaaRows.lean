/-
  No cell of these rows narrows 'for every input' (looked for: loops, veiled, ifaces, maps, wideKeys, modest, calm, conditions, laid).
  DERIVED. THE GIVEN ROWS OF THIS SEAT. 6 by the template 'for every input the law returns true; each argument reads behind the call as it read before'; 0 by the template 'total and deterministic' (their statements: YtogihgjejbiiaaaTotals.lean).
  GIVEN WITH THE SEED: the statements are not yours to turn. If you find one false, say at which input.
  Laid BY PROGRAM, IN A SANDBOX (cutbox-rows.mjs): the forced cells as the released guide's own fill.sh prints them over the translation b2bc3eb86598dd7e… (all of the seat's roots in one cut). By AI agents, Wed Nov 11 2026. No macro, syntax, notation, axiom, sorry.
-/
import Derived.Test.YtogihgjejbiiaaaChecked
import GoSem.Claim
import GoSem.ClaimJoined
import GoSem.ClaimMapViews
import Derived.JoinedTies
import Derived.KernelRfl
namespace Go.Proofs.Ytogihgjejbiiaaa
/- THE CELL 'sum', in the pinned program and in every row, IS THE sha256 OF THE DUMP (.gsa) THAT YtogihgjejbiiaaaProg.lean LOADS. Nothing in Lean hashes anything: it is a label: what it is worth is what the hold of that sum in a sandbox is worth. -/
noncomputable def Try.pinned : Pinned := { name := "ytogihgjejbiiaaa", sum := "b2bc3eb86598dd7e652c63677b39d66040b160cad8ab1319b2b02a0735e8f70c", checked := Try.checked }
namespace Rows
def none {H : Type} : Left H := { results := [], args := [] }

/-- 'laws.FnExactWriterSize': WHATEVER THE INPUT: true; the input reads as it did. -/
def fnExactWriterSizeSpec : ChangeSpec := { name := "fnExactWriterSize", fn := fun _ => fun
  | [d] => { results := [.lit (.bool true)], args := [d] }
  | _ => none }
def fnExactWriterSizeRow : OpenClaim := { program := "ytogihgjejbiiaaa", sum := "b2bc3eb86598dd7e652c63677b39d66040b160cad8ab1319b2b02a0735e8f70c", func := "loop.example/lib-g01191/laws.FnExactWriterSize", spec := "fnExactWriterSize", apart := false }
def FnExactWriterSizeSaid : Prop := fnExactWriterSizeRow.holds Try.pinned (OpenSpec.ofChange fnExactWriterSizeSpec)

/-- ITS FALSE NEIGHBOUR: 'it returns false'. Refute it at one input. -/
def fnExactWriterSizeWrong : ChangeSpec := { name := "fnExactWriterSize", fn := fun _ => fun
  | [d] => { results := [.lit (.bool false)], args := [d] }
  | _ => none }
def FnExactWriterSizeWrongFalsely : Prop := fnExactWriterSizeRow.holds Try.pinned (OpenSpec.ofChange fnExactWriterSizeWrong)

/-- 'laws.FnWriterSize': WHATEVER THE INPUT: true; the input reads as it did. -/
def fnWriterSizeSpec : ChangeSpec := { name := "fnWriterSize", fn := fun _ => fun
  | [d] => { results := [.lit (.bool true)], args := [d] }
  | _ => none }
def fnWriterSizeRow : OpenClaim := { program := "ytogihgjejbiiaaa", sum := "b2bc3eb86598dd7e652c63677b39d66040b160cad8ab1319b2b02a0735e8f70c", func := "loop.example/lib-g01191/laws.FnWriterSize", spec := "fnWriterSize", apart := false }
def FnWriterSizeSaid : Prop := fnWriterSizeRow.holds Try.pinned (OpenSpec.ofChange fnWriterSizeSpec)

/-- ITS FALSE NEIGHBOUR: 'it returns false'. Refute it at one input. -/
def fnWriterSizeWrong : ChangeSpec := { name := "fnWriterSize", fn := fun _ => fun
  | [d] => { results := [.lit (.bool false)], args := [d] }
  | _ => none }
def FnWriterSizeWrongFalsely : Prop := fnWriterSizeRow.holds Try.pinned (OpenSpec.ofChange fnWriterSizeWrong)

/-- 'laws.FnWriterSizeCode': WHATEVER THE INPUT: true; the input reads as it did. -/
def fnWriterSizeCodeSpec : ChangeSpec := { name := "fnWriterSizeCode", fn := fun _ => fun
  | [d] => { results := [.lit (.bool true)], args := [d] }
  | _ => none }
def fnWriterSizeCodeRow : OpenClaim := { program := "ytogihgjejbiiaaa", sum := "b2bc3eb86598dd7e652c63677b39d66040b160cad8ab1319b2b02a0735e8f70c", func := "loop.example/lib-g01191/laws.FnWriterSizeCode", spec := "fnWriterSizeCode", apart := false }
def FnWriterSizeCodeSaid : Prop := fnWriterSizeCodeRow.holds Try.pinned (OpenSpec.ofChange fnWriterSizeCodeSpec)

/-- ITS FALSE NEIGHBOUR: 'it returns false'. Refute it at one input. -/
def fnWriterSizeCodeWrong : ChangeSpec := { name := "fnWriterSizeCode", fn := fun _ => fun
  | [d] => { results := [.lit (.bool false)], args := [d] }
  | _ => none }
def FnWriterSizeCodeWrongFalsely : Prop := fnWriterSizeCodeRow.holds Try.pinned (OpenSpec.ofChange fnWriterSizeCodeWrong)

/-- 'laws.FnExactReaderSize': WHATEVER THE INPUT: true; the input reads as it did. -/
def fnExactReaderSizeSpec : ChangeSpec := { name := "fnExactReaderSize", fn := fun _ => fun
  | [d] => { results := [.lit (.bool true)], args := [d] }
  | _ => none }
def fnExactReaderSizeRow : OpenClaim := { program := "ytogihgjejbiiaaa", sum := "b2bc3eb86598dd7e652c63677b39d66040b160cad8ab1319b2b02a0735e8f70c", func := "loop.example/lib-g01191/laws.FnExactReaderSize", spec := "fnExactReaderSize", apart := false }
def FnExactReaderSizeSaid : Prop := fnExactReaderSizeRow.holds Try.pinned (OpenSpec.ofChange fnExactReaderSizeSpec)

/-- ITS FALSE NEIGHBOUR: 'it returns false'. Refute it at one input. -/
def fnExactReaderSizeWrong : ChangeSpec := { name := "fnExactReaderSize", fn := fun _ => fun
  | [d] => { results := [.lit (.bool false)], args := [d] }
  | _ => none }
def FnExactReaderSizeWrongFalsely : Prop := fnExactReaderSizeRow.holds Try.pinned (OpenSpec.ofChange fnExactReaderSizeWrong)

/-- 'laws.FnReaderSize': WHATEVER THE INPUT: true; the input reads as it did. -/
def fnReaderSizeSpec : ChangeSpec := { name := "fnReaderSize", fn := fun _ => fun
  | [d] => { results := [.lit (.bool true)], args := [d] }
  | _ => none }
def fnReaderSizeRow : OpenClaim := { program := "ytogihgjejbiiaaa", sum := "b2bc3eb86598dd7e652c63677b39d66040b160cad8ab1319b2b02a0735e8f70c", func := "loop.example/lib-g01191/laws.FnReaderSize", spec := "fnReaderSize", apart := false }
def FnReaderSizeSaid : Prop := fnReaderSizeRow.holds Try.pinned (OpenSpec.ofChange fnReaderSizeSpec)

/-- ITS FALSE NEIGHBOUR: 'it returns false'. Refute it at one input. -/
def fnReaderSizeWrong : ChangeSpec := { name := "fnReaderSize", fn := fun _ => fun
  | [d] => { results := [.lit (.bool false)], args := [d] }
  | _ => none }
def FnReaderSizeWrongFalsely : Prop := fnReaderSizeRow.holds Try.pinned (OpenSpec.ofChange fnReaderSizeWrong)

/-- 'laws.FnReaderSizeCode': WHATEVER THE INPUT: true; the input reads as it did. -/
def fnReaderSizeCodeSpec : ChangeSpec := { name := "fnReaderSizeCode", fn := fun _ => fun
  | [d] => { results := [.lit (.bool true)], args := [d] }
  | _ => none }
def fnReaderSizeCodeRow : OpenClaim := { program := "ytogihgjejbiiaaa", sum := "b2bc3eb86598dd7e652c63677b39d66040b160cad8ab1319b2b02a0735e8f70c", func := "loop.example/lib-g01191/laws.FnReaderSizeCode", spec := "fnReaderSizeCode", apart := false }
def FnReaderSizeCodeSaid : Prop := fnReaderSizeCodeRow.holds Try.pinned (OpenSpec.ofChange fnReaderSizeCodeSpec)

/-- ITS FALSE NEIGHBOUR: 'it returns false'. Refute it at one input. -/
def fnReaderSizeCodeWrong : ChangeSpec := { name := "fnReaderSizeCode", fn := fun _ => fun
  | [d] => { results := [.lit (.bool false)], args := [d] }
  | _ => none }
def FnReaderSizeCodeWrongFalsely : Prop := fnReaderSizeCodeRow.holds Try.pinned (OpenSpec.ofChange fnReaderSizeCodeWrong)

/- THE SECOND FORM. 'bulk': how many values and letters a reading holds, each counted each time it is reached (what is shared counts as often as it is met; a slice's spare places count too). A statement '..UptoSaid' is the law's where the arguments, and the package variables that the reading takes, are together of bulk at most 1048576: NARROWER than '..Said'. Prove '..Said' where nothing that the law and all that it calls make is longer than what came in: it says more and counts as full. Else prove '..UptoSaid'. A law counts once. -/
mutual
def uptoBulk {H : Type} : DataW H → Nat
  | .lit (.string bytes) => bytes.length + 1
  | .lit _ => 1
  | .nil => 1
  | .ptr d => uptoBulk d + 1
  | .slice elems spare => uptoBulkAll elems + uptoBulkAll spare + 1
  | .agg parts => uptoBulkAll parts + 1
  | .iface _ d => uptoBulk d + 1
  | .map entries => uptoBulkEntries entries + 1
  | .held _ => 1
def uptoBulkAll {H : Type} : List (DataW H) → Nat
  | [] => 0
  | d :: r => uptoBulk d + uptoBulkAll r
def uptoBulkEntries {H : Type} : List (Lit × DataW H) → Nat
  | [] => 0
  | x :: r => uptoBulkEntry x + uptoBulkEntries r
def uptoBulkEntry {H : Type} : Lit × DataW H → Nat
  | (.string bytes, d) => bytes.length + uptoBulk d + 1
  | (_, d) => uptoBulk d + 1
 end
def uptoSmall : (H : Type) → List (DataW H) → Bool := fun _ ds => decide (uptoBulkAll ds ≤ 1048576)
def OpenSpec.upto (s : _root_.Go.ChangeSpec) : _root_.Go.OpenSpec := { _root_.Go.OpenSpec.ofChange s with cond := some uptoSmall }

/-- 'laws.FnExactWriterSize', WHERE WHAT IT READS IS OF BULK AT MOST 1048576: true; the input reads as it did. -/
def fnExactWriterSizeUptoRow : OpenClaim := { program := "ytogihgjejbiiaaa", sum := "b2bc3eb86598dd7e652c63677b39d66040b160cad8ab1319b2b02a0735e8f70c", func := "loop.example/lib-g01191/laws.FnExactWriterSize", spec := "fnExactWriterSize", apart := false, narrowed := true }
def FnExactWriterSizeUptoSaid : Prop := fnExactWriterSizeUptoRow.holds Try.pinned (OpenSpec.upto fnExactWriterSizeSpec)

/-- 'laws.FnWriterSize', WHERE WHAT IT READS IS OF BULK AT MOST 1048576: true; the input reads as it did. -/
def fnWriterSizeUptoRow : OpenClaim := { program := "ytogihgjejbiiaaa", sum := "b2bc3eb86598dd7e652c63677b39d66040b160cad8ab1319b2b02a0735e8f70c", func := "loop.example/lib-g01191/laws.FnWriterSize", spec := "fnWriterSize", apart := false, narrowed := true }
def FnWriterSizeUptoSaid : Prop := fnWriterSizeUptoRow.holds Try.pinned (OpenSpec.upto fnWriterSizeSpec)

/-- 'laws.FnWriterSizeCode', WHERE WHAT IT READS IS OF BULK AT MOST 1048576: true; the input reads as it did. -/
def fnWriterSizeCodeUptoRow : OpenClaim := { program := "ytogihgjejbiiaaa", sum := "b2bc3eb86598dd7e652c63677b39d66040b160cad8ab1319b2b02a0735e8f70c", func := "loop.example/lib-g01191/laws.FnWriterSizeCode", spec := "fnWriterSizeCode", apart := false, narrowed := true }
def FnWriterSizeCodeUptoSaid : Prop := fnWriterSizeCodeUptoRow.holds Try.pinned (OpenSpec.upto fnWriterSizeCodeSpec)

/-- 'laws.FnExactReaderSize', WHERE WHAT IT READS IS OF BULK AT MOST 1048576: true; the input reads as it did. -/
def fnExactReaderSizeUptoRow : OpenClaim := { program := "ytogihgjejbiiaaa", sum := "b2bc3eb86598dd7e652c63677b39d66040b160cad8ab1319b2b02a0735e8f70c", func := "loop.example/lib-g01191/laws.FnExactReaderSize", spec := "fnExactReaderSize", apart := false, narrowed := true }
def FnExactReaderSizeUptoSaid : Prop := fnExactReaderSizeUptoRow.holds Try.pinned (OpenSpec.upto fnExactReaderSizeSpec)

/-- 'laws.FnReaderSize', WHERE WHAT IT READS IS OF BULK AT MOST 1048576: true; the input reads as it did. -/
def fnReaderSizeUptoRow : OpenClaim := { program := "ytogihgjejbiiaaa", sum := "b2bc3eb86598dd7e652c63677b39d66040b160cad8ab1319b2b02a0735e8f70c", func := "loop.example/lib-g01191/laws.FnReaderSize", spec := "fnReaderSize", apart := false, narrowed := true }
def FnReaderSizeUptoSaid : Prop := fnReaderSizeUptoRow.holds Try.pinned (OpenSpec.upto fnReaderSizeSpec)

/-- 'laws.FnReaderSizeCode', WHERE WHAT IT READS IS OF BULK AT MOST 1048576: true; the input reads as it did. -/
def fnReaderSizeCodeUptoRow : OpenClaim := { program := "ytogihgjejbiiaaa", sum := "b2bc3eb86598dd7e652c63677b39d66040b160cad8ab1319b2b02a0735e8f70c", func := "loop.example/lib-g01191/laws.FnReaderSizeCode", spec := "fnReaderSizeCode", apart := false, narrowed := true }
def FnReaderSizeCodeUptoSaid : Prop := fnReaderSizeCodeUptoRow.holds Try.pinned (OpenSpec.upto fnReaderSizeCodeSpec)

end Rows
end Go.Proofs.Ytogihgjejbiiaaa

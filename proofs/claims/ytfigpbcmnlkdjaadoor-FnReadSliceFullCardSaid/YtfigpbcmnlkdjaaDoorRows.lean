/-
  NARROWER THAN 'FOR EVERY INPUT', by the rows' own cells (each row's printed sentence says how): FnReadSliceFull: ifaces, laid · FnRunesWritten: ifaces, laid · FnRoundTrip: ifaces, laid.
  DERIVED. THE GIVEN ROWS OF THIS SEAT. 3 by the template 'for every input the law returns true; each argument reads behind the call as it read before'; 0 by the template 'total and deterministic' (their statements: YtfigpbcmnlkdjaaDoorTotals.lean).
  GIVEN WITH THE SEED: the statements are not yours to turn. If you find one false, say at which input.
  Laid BY PROGRAM, IN A SANDBOX (cutbox-rows.mjs): the forced cells as the released guide's own fill.sh prints them over the translation 64e1dc99215d8543… (all of the seat's roots in one cut). By AI agents, Wed Nov 11 2026. No macro, syntax, notation, axiom, sorry.
-/
import Derived.Test.YtfigpbcmnlkdjaaDoorChecked
import GoSem.PinnedTables
import GoSem.Claim
import GoSem.ClaimJoined
import GoSem.ClaimMapViews
import Derived.JoinedTies
import Derived.KernelRfl
namespace Go.Proofs.YtfigpbcmnlkdjaaDoor
/- THE CELL 'sum', in the pinned program and in every row, IS THE sha256 OF THE DUMP (.gsa) THAT YtfigpbcmnlkdjaaDoorProg.lean LOADS. Nothing in Lean hashes anything: it is a label: what it is worth is what the hold of that sum in a sandbox is worth. -/
noncomputable def Tryd.pinned : Pinned := { name := "ytfigpbcmnlkdjaadoor", sum := "64e1dc99215d85435a59cc41bb7c1d82c78637198c17373132f2feb813c1e1f6", checked := Tryd.checked }
namespace Rows
def none {H : Type} : Left H := { results := [], args := [] }

/- WHAT THE LISTED PACKAGE-LEVEL VARIABLES READ AS WHEN THE CALL BEGINS. Each datum BY PROGRAM (the guide's laid-datum.mjs) off the statement by which the dump's own 'gosem.cut.vars' lays the variable. In a bare row this is a premise. The card (YtfigpbcmnlkdjaaDoorCards.lean) ties it to the program's text. -/
def laid_io_ErrShortWrite {H : Type} : DataW H := .iface "*errors.errorString" (.ptr (.agg [.lit (.string [115, 104, 111, 114, 116, 32, 119, 114, 105, 116, 101])]))
def laid_io_EOF {H : Type} : DataW H := .iface "*errors.errorString" (.ptr (.agg [.lit (.string [69, 79, 70])]))
def laid_io_ErrNoProgress {H : Type} : DataW H := .iface "*errors.errorString" (.ptr (.agg [.lit (.string [109, 117, 108, 116, 105, 112, 108, 101, 32, 82, 101, 97, 100, 32, 99, 97, 108, 108, 115, 32, 114, 101, 116, 117, 114, 110, 32, 110, 111, 32, 100, 97, 116, 97, 32, 111, 114, 32, 101, 114, 114, 111, 114])]))
def laid_bufio_ErrInvalidUnreadByte {H : Type} : DataW H := .iface "*errors.errorString" (.ptr (.agg [.lit (.string [98, 117, 102, 105, 111, 58, 32, 105, 110, 118, 97, 108, 105, 100, 32, 117, 115, 101, 32, 111, 102, 32, 85, 110, 114, 101, 97, 100, 66, 121, 116, 101])]))
def laid_bufio_ErrInvalidUnreadRune {H : Type} : DataW H := .iface "*errors.errorString" (.ptr (.agg [.lit (.string [98, 117, 102, 105, 111, 58, 32, 105, 110, 118, 97, 108, 105, 100, 32, 117, 115, 101, 32, 111, 102, 32, 85, 110, 114, 101, 97, 100, 82, 117, 110, 101])]))
def laid_bufio_ErrBufferFull {H : Type} : DataW H := .iface "*errors.errorString" (.ptr (.agg [.lit (.string [98, 117, 102, 105, 111, 58, 32, 98, 117, 102, 102, 101, 114, 32, 102, 117, 108, 108])]))
def laid_bufio_ErrNegativeCount {H : Type} : DataW H := .iface "*errors.errorString" (.ptr (.agg [.lit (.string [98, 117, 102, 105, 111, 58, 32, 110, 101, 103, 97, 116, 105, 118, 101, 32, 99, 111, 117, 110, 116])]))
def laid_bufio_errNegativeRead {H : Type} : DataW H := .iface "*errors.errorString" (.ptr (.agg [.lit (.string [98, 117, 102, 105, 111, 58, 32, 114, 101, 97, 100, 101, 114, 32, 114, 101, 116, 117, 114, 110, 101, 100, 32, 110, 101, 103, 97, 116, 105, 118, 101, 32, 99, 111, 117, 110, 116, 32, 102, 114, 111, 109, 32, 82, 101, 97, 100])]))
def laid_loop_example_lib_g01191_impl_errSink {H : Type} : DataW H := .iface "*errors.errorString" (.ptr (.agg [.lit (.string [115, 105, 110, 107])]))
def laid_unicode_utf8_acceptRanges {H : Type} : DataW H := .agg [.agg [.lit (.int .u8 128), .lit (.int .u8 191)], .agg [.lit (.int .u8 160), .lit (.int .u8 191)], .agg [.lit (.int .u8 128), .lit (.int .u8 159)], .agg [.lit (.int .u8 144), .lit (.int .u8 191)], .agg [.lit (.int .u8 128), .lit (.int .u8 143)], .agg [.lit (.int .u8 0), .lit (.int .u8 0)], .agg [.lit (.int .u8 0), .lit (.int .u8 0)], .agg [.lit (.int .u8 0), .lit (.int .u8 0)], .agg [.lit (.int .u8 0), .lit (.int .u8 0)], .agg [.lit (.int .u8 0), .lit (.int .u8 0)], .agg [.lit (.int .u8 0), .lit (.int .u8 0)], .agg [.lit (.int .u8 0), .lit (.int .u8 0)], .agg [.lit (.int .u8 0), .lit (.int .u8 0)], .agg [.lit (.int .u8 0), .lit (.int .u8 0)], .agg [.lit (.int .u8 0), .lit (.int .u8 0)], .agg [.lit (.int .u8 0), .lit (.int .u8 0)]]
/-- One of Go's own tables, pinned by name: the form's constant. -/
def laid_unicode_utf8_first : DataW Unit := Go.Pinned.utf8First

/-- 'laws.FnReadSliceFull': WHATEVER THE INPUT: true; the input reads as it did. -/
def fnReadSliceFullSpec : ChangeSpec := { name := "fnReadSliceFull", vars := ["loop.example/lib-g01191/impl.errSink"], fn := fun _ => fun
  | [d1, d2, d3, d4, d5, d6, g1] => { results := [.lit (.bool true)], args := [d1, d2, d3, d4, d5, d6], vars := [g1] }
  | _ => none }
def fnReadSliceFullRow : OpenClaim := { program := "ytfigpbcmnlkdjaadoor", sum := "64e1dc99215d85435a59cc41bb7c1d82c78637198c17373132f2feb813c1e1f6", func := "loop.example/lib-g01191/laws.FnReadSliceFull", spec := "fnReadSliceFull", inPlace := ["internal/bytealg.IndexByte"], unfollowed := true, recurses := true, named := ["bufio.ErrBufferFull", "bufio.errNegativeRead", "io.ErrNoProgress", "io.EOF", "bufio.ErrNegativeCount", "bufio.ErrInvalidUnreadByte", "bufio.ErrInvalidUnreadRune", "io.ErrShortWrite", "loop.example/lib-g01191/impl.errSink"], ifaces := true, apart := false, laid := [("io.ErrShortWrite", laid_io_ErrShortWrite), ("io.EOF", laid_io_EOF), ("io.ErrNoProgress", laid_io_ErrNoProgress), ("bufio.ErrInvalidUnreadByte", laid_bufio_ErrInvalidUnreadByte), ("bufio.ErrInvalidUnreadRune", laid_bufio_ErrInvalidUnreadRune), ("bufio.ErrBufferFull", laid_bufio_ErrBufferFull), ("bufio.ErrNegativeCount", laid_bufio_ErrNegativeCount), ("bufio.errNegativeRead", laid_bufio_errNegativeRead), ("loop.example/lib-g01191/impl.errSink", laid_loop_example_lib_g01191_impl_errSink)] }
def FnReadSliceFullSaid : Prop := fnReadSliceFullRow.holds Tryd.pinned (OpenSpec.ofChange fnReadSliceFullSpec)

/-- ITS FALSE NEIGHBOUR: 'it returns false'. Refute it at one input. -/
def fnReadSliceFullWrong : ChangeSpec := { name := "fnReadSliceFull", vars := ["loop.example/lib-g01191/impl.errSink"], fn := fun _ => fun
  | [d1, d2, d3, d4, d5, d6, g1] => { results := [.lit (.bool false)], args := [d1, d2, d3, d4, d5, d6], vars := [g1] }
  | _ => none }
def FnReadSliceFullWrongFalsely : Prop := fnReadSliceFullRow.holds Tryd.pinned (OpenSpec.ofChange fnReadSliceFullWrong)

/-- 'laws.FnRunesWritten': WHATEVER THE INPUT: true; the input reads as it did. -/
def fnRunesWrittenSpec : ChangeSpec := { name := "fnRunesWritten", vars := ["loop.example/lib-g01191/impl.errSink"], fn := fun _ => fun
  | [d1, d2, d3, g1] => { results := [.lit (.bool true)], args := [d1, d2, d3], vars := [g1] }
  | _ => none }
def fnRunesWrittenRow : OpenClaim := { program := "ytfigpbcmnlkdjaadoor", sum := "64e1dc99215d85435a59cc41bb7c1d82c78637198c17373132f2feb813c1e1f6", func := "loop.example/lib-g01191/laws.FnRunesWritten", spec := "fnRunesWritten", unfollowed := true, recurses := true, named := ["unicode/utf8.first", "unicode/utf8.acceptRanges", "bufio.errNegativeRead", "io.ErrNoProgress", "io.EOF", "bufio.ErrBufferFull", "bufio.ErrNegativeCount", "bufio.ErrInvalidUnreadByte", "bufio.ErrInvalidUnreadRune", "io.ErrShortWrite", "loop.example/lib-g01191/impl.errSink"], ifaces := true, apart := false, laid := [("unicode/utf8.acceptRanges", laid_unicode_utf8_acceptRanges), ("io.ErrShortWrite", laid_io_ErrShortWrite), ("io.EOF", laid_io_EOF), ("io.ErrNoProgress", laid_io_ErrNoProgress), ("bufio.ErrInvalidUnreadByte", laid_bufio_ErrInvalidUnreadByte), ("bufio.ErrInvalidUnreadRune", laid_bufio_ErrInvalidUnreadRune), ("bufio.ErrBufferFull", laid_bufio_ErrBufferFull), ("bufio.ErrNegativeCount", laid_bufio_ErrNegativeCount), ("bufio.errNegativeRead", laid_bufio_errNegativeRead), ("loop.example/lib-g01191/impl.errSink", laid_loop_example_lib_g01191_impl_errSink), ("unicode/utf8.first", laid_unicode_utf8_first)] }
def FnRunesWrittenSaid : Prop := fnRunesWrittenRow.holds Tryd.pinned (OpenSpec.ofChange fnRunesWrittenSpec)

/-- ITS FALSE NEIGHBOUR: 'it returns false'. Refute it at one input. -/
def fnRunesWrittenWrong : ChangeSpec := { name := "fnRunesWritten", vars := ["loop.example/lib-g01191/impl.errSink"], fn := fun _ => fun
  | [d1, d2, d3, g1] => { results := [.lit (.bool false)], args := [d1, d2, d3], vars := [g1] }
  | _ => none }
def FnRunesWrittenWrongFalsely : Prop := fnRunesWrittenRow.holds Tryd.pinned (OpenSpec.ofChange fnRunesWrittenWrong)

/-- 'laws.FnRoundTrip': WHATEVER THE INPUT: true; the input reads as it did. -/
def fnRoundTripSpec : ChangeSpec := { name := "fnRoundTrip", vars := ["loop.example/lib-g01191/impl.errSink"], fn := fun _ => fun
  | [d1, d2, d3, d4, d5, g1] => { results := [.lit (.bool true)], args := [d1, d2, d3, d4, d5], vars := [g1] }
  | _ => none }
def fnRoundTripRow : OpenClaim := { program := "ytfigpbcmnlkdjaadoor", sum := "64e1dc99215d85435a59cc41bb7c1d82c78637198c17373132f2feb813c1e1f6", func := "loop.example/lib-g01191/laws.FnRoundTrip", spec := "fnRoundTrip", inPlace := ["internal/bytealg.IndexByte"], unfollowed := true, recurses := true, named := ["io.ErrShortWrite", "io.EOF", "bufio.ErrBufferFull", "bufio.ErrNegativeCount", "bufio.ErrInvalidUnreadByte", "bufio.ErrInvalidUnreadRune", "io.ErrNoProgress", "loop.example/lib-g01191/impl.errSink", "bufio.errNegativeRead"], ifaces := true, apart := false, laid := [("io.ErrShortWrite", laid_io_ErrShortWrite), ("io.EOF", laid_io_EOF), ("io.ErrNoProgress", laid_io_ErrNoProgress), ("bufio.ErrInvalidUnreadByte", laid_bufio_ErrInvalidUnreadByte), ("bufio.ErrInvalidUnreadRune", laid_bufio_ErrInvalidUnreadRune), ("bufio.ErrBufferFull", laid_bufio_ErrBufferFull), ("bufio.ErrNegativeCount", laid_bufio_ErrNegativeCount), ("bufio.errNegativeRead", laid_bufio_errNegativeRead), ("loop.example/lib-g01191/impl.errSink", laid_loop_example_lib_g01191_impl_errSink)] }
def FnRoundTripSaid : Prop := fnRoundTripRow.holds Tryd.pinned (OpenSpec.ofChange fnRoundTripSpec)

/-- ITS FALSE NEIGHBOUR: 'it returns false'. Refute it at one input. -/
def fnRoundTripWrong : ChangeSpec := { name := "fnRoundTrip", vars := ["loop.example/lib-g01191/impl.errSink"], fn := fun _ => fun
  | [d1, d2, d3, d4, d5, g1] => { results := [.lit (.bool false)], args := [d1, d2, d3, d4, d5], vars := [g1] }
  | _ => none }
def FnRoundTripWrongFalsely : Prop := fnRoundTripRow.holds Tryd.pinned (OpenSpec.ofChange fnRoundTripWrong)

/- THE SECOND FORM. 'bulk': how many values and letters a reading holds, each counted each time it is reached (what is shared counts as often as it is met; a slice's spare places count too). A statement '..UptoSaid' is the law's where the arguments, and the package variables that the reading takes, are together of bulk at most 1048576: NARROWER than '..Said'. Prove '..Said' where nothing that the law and all that it calls make is longer than what came in: it says more and counts as full. Else prove '..UptoSaid'. A law counts once. -/
mutual
def uptoBulk {H : Type} : DataW H → Nat
  | .lit (.string bytes) => bytes.length + 1
  | .lit _ => 1
  | .nil => 1
  | .ptr d => uptoBulk d + 1
  | .slice elems spare => uptoBulkAll elems + uptoBulkAll spare + 1
  | .agg parts => uptoBulkAll parts + 1
  | .iface _ d => uptoBulk d + 1
  | .map entries => uptoBulkEntries entries + 1
  | .held _ => 1
def uptoBulkAll {H : Type} : List (DataW H) → Nat
  | [] => 0
  | d :: r => uptoBulk d + uptoBulkAll r
def uptoBulkEntries {H : Type} : List (Lit × DataW H) → Nat
  | [] => 0
  | x :: r => uptoBulkEntry x + uptoBulkEntries r
def uptoBulkEntry {H : Type} : Lit × DataW H → Nat
  | (.string bytes, d) => bytes.length + uptoBulk d + 1
  | (_, d) => uptoBulk d + 1
 end
def uptoSmall : (H : Type) → List (DataW H) → Bool := fun _ ds => decide (uptoBulkAll ds ≤ 1048576)
def OpenSpec.upto (s : _root_.Go.ChangeSpec) : _root_.Go.OpenSpec := { _root_.Go.OpenSpec.ofChange s with cond := some uptoSmall }

/-- 'laws.FnReadSliceFull', WHERE WHAT IT READS IS OF BULK AT MOST 1048576: true; the input reads as it did. -/
def fnReadSliceFullUptoRow : OpenClaim := { program := "ytfigpbcmnlkdjaadoor", sum := "64e1dc99215d85435a59cc41bb7c1d82c78637198c17373132f2feb813c1e1f6", func := "loop.example/lib-g01191/laws.FnReadSliceFull", spec := "fnReadSliceFull", inPlace := ["internal/bytealg.IndexByte"], unfollowed := true, recurses := true, named := ["bufio.ErrBufferFull", "bufio.errNegativeRead", "io.ErrNoProgress", "io.EOF", "bufio.ErrNegativeCount", "bufio.ErrInvalidUnreadByte", "bufio.ErrInvalidUnreadRune", "io.ErrShortWrite", "loop.example/lib-g01191/impl.errSink"], ifaces := true, apart := false, laid := [("io.ErrShortWrite", laid_io_ErrShortWrite), ("io.EOF", laid_io_EOF), ("io.ErrNoProgress", laid_io_ErrNoProgress), ("bufio.ErrInvalidUnreadByte", laid_bufio_ErrInvalidUnreadByte), ("bufio.ErrInvalidUnreadRune", laid_bufio_ErrInvalidUnreadRune), ("bufio.ErrBufferFull", laid_bufio_ErrBufferFull), ("bufio.ErrNegativeCount", laid_bufio_ErrNegativeCount), ("bufio.errNegativeRead", laid_bufio_errNegativeRead), ("loop.example/lib-g01191/impl.errSink", laid_loop_example_lib_g01191_impl_errSink)], narrowed := true }
def FnReadSliceFullUptoSaid : Prop := fnReadSliceFullUptoRow.holds Tryd.pinned (OpenSpec.upto fnReadSliceFullSpec)

/-- 'laws.FnRunesWritten', WHERE WHAT IT READS IS OF BULK AT MOST 1048576: true; the input reads as it did. -/
def fnRunesWrittenUptoRow : OpenClaim := { program := "ytfigpbcmnlkdjaadoor", sum := "64e1dc99215d85435a59cc41bb7c1d82c78637198c17373132f2feb813c1e1f6", func := "loop.example/lib-g01191/laws.FnRunesWritten", spec := "fnRunesWritten", unfollowed := true, recurses := true, named := ["unicode/utf8.first", "unicode/utf8.acceptRanges", "bufio.errNegativeRead", "io.ErrNoProgress", "io.EOF", "bufio.ErrBufferFull", "bufio.ErrNegativeCount", "bufio.ErrInvalidUnreadByte", "bufio.ErrInvalidUnreadRune", "io.ErrShortWrite", "loop.example/lib-g01191/impl.errSink"], ifaces := true, apart := false, laid := [("unicode/utf8.acceptRanges", laid_unicode_utf8_acceptRanges), ("io.ErrShortWrite", laid_io_ErrShortWrite), ("io.EOF", laid_io_EOF), ("io.ErrNoProgress", laid_io_ErrNoProgress), ("bufio.ErrInvalidUnreadByte", laid_bufio_ErrInvalidUnreadByte), ("bufio.ErrInvalidUnreadRune", laid_bufio_ErrInvalidUnreadRune), ("bufio.ErrBufferFull", laid_bufio_ErrBufferFull), ("bufio.ErrNegativeCount", laid_bufio_ErrNegativeCount), ("bufio.errNegativeRead", laid_bufio_errNegativeRead), ("loop.example/lib-g01191/impl.errSink", laid_loop_example_lib_g01191_impl_errSink), ("unicode/utf8.first", laid_unicode_utf8_first)], narrowed := true }
def FnRunesWrittenUptoSaid : Prop := fnRunesWrittenUptoRow.holds Tryd.pinned (OpenSpec.upto fnRunesWrittenSpec)

/-- 'laws.FnRoundTrip', WHERE WHAT IT READS IS OF BULK AT MOST 1048576: true; the input reads as it did. -/
def fnRoundTripUptoRow : OpenClaim := { program := "ytfigpbcmnlkdjaadoor", sum := "64e1dc99215d85435a59cc41bb7c1d82c78637198c17373132f2feb813c1e1f6", func := "loop.example/lib-g01191/laws.FnRoundTrip", spec := "fnRoundTrip", inPlace := ["internal/bytealg.IndexByte"], unfollowed := true, recurses := true, named := ["io.ErrShortWrite", "io.EOF", "bufio.ErrBufferFull", "bufio.ErrNegativeCount", "bufio.ErrInvalidUnreadByte", "bufio.ErrInvalidUnreadRune", "io.ErrNoProgress", "loop.example/lib-g01191/impl.errSink", "bufio.errNegativeRead"], ifaces := true, apart := false, laid := [("io.ErrShortWrite", laid_io_ErrShortWrite), ("io.EOF", laid_io_EOF), ("io.ErrNoProgress", laid_io_ErrNoProgress), ("bufio.ErrInvalidUnreadByte", laid_bufio_ErrInvalidUnreadByte), ("bufio.ErrInvalidUnreadRune", laid_bufio_ErrInvalidUnreadRune), ("bufio.ErrBufferFull", laid_bufio_ErrBufferFull), ("bufio.ErrNegativeCount", laid_bufio_ErrNegativeCount), ("bufio.errNegativeRead", laid_bufio_errNegativeRead), ("loop.example/lib-g01191/impl.errSink", laid_loop_example_lib_g01191_impl_errSink)], narrowed := true }
def FnRoundTripUptoSaid : Prop := fnRoundTripUptoRow.holds Tryd.pinned (OpenSpec.upto fnRoundTripSpec)

end Rows
end Go.Proofs.YtfigpbcmnlkdjaaDoor

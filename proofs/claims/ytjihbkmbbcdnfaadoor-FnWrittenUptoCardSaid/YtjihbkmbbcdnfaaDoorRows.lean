/-
  NARROWER THAN 'FOR EVERY INPUT', by the rows' own cells (each row's printed sentence says how): FnExactWriteAll: ifaces, laid · FnPartsAlike: ifaces, laid · FnWriteAll: ifaces, laid · FnSticky: ifaces, laid · FnWriteRunes: ifaces, laid · FnWriteStrings: ifaces, laid · FnWriterAllowed: ifaces, laid · FnWritten: ifaces, laid · FnWriterReset: ifaces, laid.
  DERIVED. THE GIVEN ROWS OF THIS SEAT. 9 by the template 'for every input the law returns true; each argument reads behind the call as it read before'; 0 by the template 'total and deterministic' (their statements: YtjihbkmbbcdnfaaDoorTotals.lean).
  GIVEN WITH THE SEED: the statements are not yours to turn. If you find one false, say at which input.
  Laid BY PROGRAM, IN A SANDBOX (cutbox-rows.mjs): the forced cells as the released guide's own fill.sh prints them over the translation 049ec70c492a8595… (all of the seat's roots in one cut). By AI agents, Wed Nov 11 2026. No macro, syntax, notation, axiom, sorry.
-/
import Derived.Test.YtjihbkmbbcdnfaaDoorChecked
import GoSem.Claim
import GoSem.ClaimJoined
import GoSem.ClaimMapViews
import Derived.JoinedTies
import Derived.KernelRfl
namespace Go.Proofs.YtjihbkmbbcdnfaaDoor
/- THE CELL 'sum', in the pinned program and in every row, IS THE sha256 OF THE DUMP (.gsa) THAT YtjihbkmbbcdnfaaDoorProg.lean LOADS. Nothing in Lean hashes anything: it is a label: what it is worth is what the hold of that sum in a sandbox is worth. -/
noncomputable def Tryd.pinned : Pinned := { name := "ytjihbkmbbcdnfaadoor", sum := "049ec70c492a8595a9dbdc8455d57d1cd006e00484f9dbba0e7a208163b24bf3", checked := Tryd.checked }
namespace Rows
def none {H : Type} : Left H := { results := [], args := [] }

/- WHAT THE LISTED PACKAGE-LEVEL VARIABLES READ AS WHEN THE CALL BEGINS. Each datum BY PROGRAM (the guide's laid-datum.mjs) off the statement by which the dump's own 'gosem.cut.vars' lays the variable. In a bare row this is a premise. The card (YtjihbkmbbcdnfaaDoorCards.lean) ties it to the program's text. -/
def laid_io_ErrShortWrite {H : Type} : DataW H := .iface "*errors.errorString" (.ptr (.agg [.lit (.string [115, 104, 111, 114, 116, 32, 119, 114, 105, 116, 101])]))
def laid_io_EOF {H : Type} : DataW H := .iface "*errors.errorString" (.ptr (.agg [.lit (.string [69, 79, 70])]))
def laid_io_ErrNoProgress {H : Type} : DataW H := .iface "*errors.errorString" (.ptr (.agg [.lit (.string [109, 117, 108, 116, 105, 112, 108, 101, 32, 82, 101, 97, 100, 32, 99, 97, 108, 108, 115, 32, 114, 101, 116, 117, 114, 110, 32, 110, 111, 32, 100, 97, 116, 97, 32, 111, 114, 32, 101, 114, 114, 111, 114])]))
def laid_bufio_ErrInvalidUnreadByte {H : Type} : DataW H := .iface "*errors.errorString" (.ptr (.agg [.lit (.string [98, 117, 102, 105, 111, 58, 32, 105, 110, 118, 97, 108, 105, 100, 32, 117, 115, 101, 32, 111, 102, 32, 85, 110, 114, 101, 97, 100, 66, 121, 116, 101])]))
def laid_bufio_ErrInvalidUnreadRune {H : Type} : DataW H := .iface "*errors.errorString" (.ptr (.agg [.lit (.string [98, 117, 102, 105, 111, 58, 32, 105, 110, 118, 97, 108, 105, 100, 32, 117, 115, 101, 32, 111, 102, 32, 85, 110, 114, 101, 97, 100, 82, 117, 110, 101])]))
def laid_bufio_ErrBufferFull {H : Type} : DataW H := .iface "*errors.errorString" (.ptr (.agg [.lit (.string [98, 117, 102, 105, 111, 58, 32, 98, 117, 102, 102, 101, 114, 32, 102, 117, 108, 108])]))
def laid_bufio_ErrNegativeCount {H : Type} : DataW H := .iface "*errors.errorString" (.ptr (.agg [.lit (.string [98, 117, 102, 105, 111, 58, 32, 110, 101, 103, 97, 116, 105, 118, 101, 32, 99, 111, 117, 110, 116])]))
def laid_loop_example_lib_g01191_impl_errSink {H : Type} : DataW H := .iface "*errors.errorString" (.ptr (.agg [.lit (.string [115, 105, 110, 107])]))

/-- 'laws.FnExactWriteAll': WHATEVER THE INPUT: true; the input reads as it did. -/
def fnExactWriteAllSpec : ChangeSpec := { name := "fnExactWriteAll", vars := ["loop.example/lib-g01191/impl.errSink"], fn := fun _ => fun
  | [d1, d2, d3, g1] => { results := [.lit (.bool true)], args := [d1, d2, d3], vars := [g1] }
  | _ => none }
def fnExactWriteAllRow : OpenClaim := { program := "ytjihbkmbbcdnfaadoor", sum := "049ec70c492a8595a9dbdc8455d57d1cd006e00484f9dbba0e7a208163b24bf3", func := "loop.example/lib-g01191/laws.FnExactWriteAll", spec := "fnExactWriteAll", unfollowed := true, recurses := true, named := ["io.ErrShortWrite", "io.EOF", "bufio.ErrBufferFull", "bufio.ErrNegativeCount", "bufio.ErrInvalidUnreadByte", "bufio.ErrInvalidUnreadRune", "io.ErrNoProgress", "loop.example/lib-g01191/impl.errSink"], ifaces := true, apart := false, laid := [("io.ErrShortWrite", laid_io_ErrShortWrite), ("io.EOF", laid_io_EOF), ("io.ErrNoProgress", laid_io_ErrNoProgress), ("bufio.ErrInvalidUnreadByte", laid_bufio_ErrInvalidUnreadByte), ("bufio.ErrInvalidUnreadRune", laid_bufio_ErrInvalidUnreadRune), ("bufio.ErrBufferFull", laid_bufio_ErrBufferFull), ("bufio.ErrNegativeCount", laid_bufio_ErrNegativeCount), ("loop.example/lib-g01191/impl.errSink", laid_loop_example_lib_g01191_impl_errSink)] }
def FnExactWriteAllSaid : Prop := fnExactWriteAllRow.holds Tryd.pinned (OpenSpec.ofChange fnExactWriteAllSpec)

/-- ITS FALSE NEIGHBOUR: 'it returns false'. Refute it at one input. -/
def fnExactWriteAllWrong : ChangeSpec := { name := "fnExactWriteAll", vars := ["loop.example/lib-g01191/impl.errSink"], fn := fun _ => fun
  | [d1, d2, d3, g1] => { results := [.lit (.bool false)], args := [d1, d2, d3], vars := [g1] }
  | _ => none }
def FnExactWriteAllWrongFalsely : Prop := fnExactWriteAllRow.holds Tryd.pinned (OpenSpec.ofChange fnExactWriteAllWrong)

/-- 'laws.FnPartsAlike': WHATEVER THE INPUT: true; the input reads as it did. -/
def fnPartsAlikeSpec : ChangeSpec := { name := "fnPartsAlike", vars := ["loop.example/lib-g01191/impl.errSink"], fn := fun _ => fun
  | [d1, d2, d3, d4, g1] => { results := [.lit (.bool true)], args := [d1, d2, d3, d4], vars := [g1] }
  | _ => none }
def fnPartsAlikeRow : OpenClaim := { program := "ytjihbkmbbcdnfaadoor", sum := "049ec70c492a8595a9dbdc8455d57d1cd006e00484f9dbba0e7a208163b24bf3", func := "loop.example/lib-g01191/laws.FnPartsAlike", spec := "fnPartsAlike", unfollowed := true, recurses := true, named := ["io.ErrShortWrite", "io.EOF", "bufio.ErrBufferFull", "bufio.ErrNegativeCount", "bufio.ErrInvalidUnreadByte", "bufio.ErrInvalidUnreadRune", "io.ErrNoProgress", "loop.example/lib-g01191/impl.errSink"], ifaces := true, apart := false, laid := [("io.ErrShortWrite", laid_io_ErrShortWrite), ("io.EOF", laid_io_EOF), ("io.ErrNoProgress", laid_io_ErrNoProgress), ("bufio.ErrInvalidUnreadByte", laid_bufio_ErrInvalidUnreadByte), ("bufio.ErrInvalidUnreadRune", laid_bufio_ErrInvalidUnreadRune), ("bufio.ErrBufferFull", laid_bufio_ErrBufferFull), ("bufio.ErrNegativeCount", laid_bufio_ErrNegativeCount), ("loop.example/lib-g01191/impl.errSink", laid_loop_example_lib_g01191_impl_errSink)] }
def FnPartsAlikeSaid : Prop := fnPartsAlikeRow.holds Tryd.pinned (OpenSpec.ofChange fnPartsAlikeSpec)

/-- ITS FALSE NEIGHBOUR: 'it returns false'. Refute it at one input. -/
def fnPartsAlikeWrong : ChangeSpec := { name := "fnPartsAlike", vars := ["loop.example/lib-g01191/impl.errSink"], fn := fun _ => fun
  | [d1, d2, d3, d4, g1] => { results := [.lit (.bool false)], args := [d1, d2, d3, d4], vars := [g1] }
  | _ => none }
def FnPartsAlikeWrongFalsely : Prop := fnPartsAlikeRow.holds Tryd.pinned (OpenSpec.ofChange fnPartsAlikeWrong)

/-- 'laws.FnWriteAll': WHATEVER THE INPUT: true; the input reads as it did. -/
def fnWriteAllSpec : ChangeSpec := { name := "fnWriteAll", vars := ["loop.example/lib-g01191/impl.errSink"], fn := fun _ => fun
  | [d1, d2, d3, g1] => { results := [.lit (.bool true)], args := [d1, d2, d3], vars := [g1] }
  | _ => none }
def fnWriteAllRow : OpenClaim := { program := "ytjihbkmbbcdnfaadoor", sum := "049ec70c492a8595a9dbdc8455d57d1cd006e00484f9dbba0e7a208163b24bf3", func := "loop.example/lib-g01191/laws.FnWriteAll", spec := "fnWriteAll", unfollowed := true, recurses := true, named := ["io.ErrShortWrite", "io.EOF", "bufio.ErrBufferFull", "bufio.ErrNegativeCount", "bufio.ErrInvalidUnreadByte", "bufio.ErrInvalidUnreadRune", "io.ErrNoProgress", "loop.example/lib-g01191/impl.errSink"], ifaces := true, apart := false, laid := [("io.ErrShortWrite", laid_io_ErrShortWrite), ("io.EOF", laid_io_EOF), ("io.ErrNoProgress", laid_io_ErrNoProgress), ("bufio.ErrInvalidUnreadByte", laid_bufio_ErrInvalidUnreadByte), ("bufio.ErrInvalidUnreadRune", laid_bufio_ErrInvalidUnreadRune), ("bufio.ErrBufferFull", laid_bufio_ErrBufferFull), ("bufio.ErrNegativeCount", laid_bufio_ErrNegativeCount), ("loop.example/lib-g01191/impl.errSink", laid_loop_example_lib_g01191_impl_errSink)] }
def FnWriteAllSaid : Prop := fnWriteAllRow.holds Tryd.pinned (OpenSpec.ofChange fnWriteAllSpec)

/-- ITS FALSE NEIGHBOUR: 'it returns false'. Refute it at one input. -/
def fnWriteAllWrong : ChangeSpec := { name := "fnWriteAll", vars := ["loop.example/lib-g01191/impl.errSink"], fn := fun _ => fun
  | [d1, d2, d3, g1] => { results := [.lit (.bool false)], args := [d1, d2, d3], vars := [g1] }
  | _ => none }
def FnWriteAllWrongFalsely : Prop := fnWriteAllRow.holds Tryd.pinned (OpenSpec.ofChange fnWriteAllWrong)

/-- 'laws.FnSticky': WHATEVER THE INPUT: true; the input reads as it did. -/
def fnStickySpec : ChangeSpec := { name := "fnSticky", vars := ["loop.example/lib-g01191/impl.errSink"], fn := fun _ => fun
  | [d1, d2, d3, d4, d5, g1] => { results := [.lit (.bool true)], args := [d1, d2, d3, d4, d5], vars := [g1] }
  | _ => none }
def fnStickyRow : OpenClaim := { program := "ytjihbkmbbcdnfaadoor", sum := "049ec70c492a8595a9dbdc8455d57d1cd006e00484f9dbba0e7a208163b24bf3", func := "loop.example/lib-g01191/laws.FnSticky", spec := "fnSticky", unfollowed := true, recurses := true, named := ["io.ErrShortWrite", "io.EOF", "bufio.ErrBufferFull", "bufio.ErrNegativeCount", "bufio.ErrInvalidUnreadByte", "bufio.ErrInvalidUnreadRune", "io.ErrNoProgress", "loop.example/lib-g01191/impl.errSink"], ifaces := true, apart := false, laid := [("io.ErrShortWrite", laid_io_ErrShortWrite), ("io.EOF", laid_io_EOF), ("io.ErrNoProgress", laid_io_ErrNoProgress), ("bufio.ErrInvalidUnreadByte", laid_bufio_ErrInvalidUnreadByte), ("bufio.ErrInvalidUnreadRune", laid_bufio_ErrInvalidUnreadRune), ("bufio.ErrBufferFull", laid_bufio_ErrBufferFull), ("bufio.ErrNegativeCount", laid_bufio_ErrNegativeCount), ("loop.example/lib-g01191/impl.errSink", laid_loop_example_lib_g01191_impl_errSink)] }
def FnStickySaid : Prop := fnStickyRow.holds Tryd.pinned (OpenSpec.ofChange fnStickySpec)

/-- ITS FALSE NEIGHBOUR: 'it returns false'. Refute it at one input. -/
def fnStickyWrong : ChangeSpec := { name := "fnSticky", vars := ["loop.example/lib-g01191/impl.errSink"], fn := fun _ => fun
  | [d1, d2, d3, d4, d5, g1] => { results := [.lit (.bool false)], args := [d1, d2, d3, d4, d5], vars := [g1] }
  | _ => none }
def FnStickyWrongFalsely : Prop := fnStickyRow.holds Tryd.pinned (OpenSpec.ofChange fnStickyWrong)

/-- 'laws.FnWriteRunes': WHATEVER THE INPUT: true; the input reads as it did. -/
def fnWriteRunesSpec : ChangeSpec := { name := "fnWriteRunes", vars := ["loop.example/lib-g01191/impl.errSink"], fn := fun _ => fun
  | [d1, d2, g1] => { results := [.lit (.bool true)], args := [d1, d2], vars := [g1] }
  | _ => none }
def fnWriteRunesRow : OpenClaim := { program := "ytjihbkmbbcdnfaadoor", sum := "049ec70c492a8595a9dbdc8455d57d1cd006e00484f9dbba0e7a208163b24bf3", func := "loop.example/lib-g01191/laws.FnWriteRunes", spec := "fnWriteRunes", unfollowed := true, recurses := true, named := ["io.ErrShortWrite", "io.EOF", "bufio.ErrBufferFull", "bufio.ErrNegativeCount", "bufio.ErrInvalidUnreadByte", "bufio.ErrInvalidUnreadRune", "io.ErrNoProgress", "loop.example/lib-g01191/impl.errSink"], ifaces := true, apart := false, laid := [("io.ErrShortWrite", laid_io_ErrShortWrite), ("io.EOF", laid_io_EOF), ("io.ErrNoProgress", laid_io_ErrNoProgress), ("bufio.ErrInvalidUnreadByte", laid_bufio_ErrInvalidUnreadByte), ("bufio.ErrInvalidUnreadRune", laid_bufio_ErrInvalidUnreadRune), ("bufio.ErrBufferFull", laid_bufio_ErrBufferFull), ("bufio.ErrNegativeCount", laid_bufio_ErrNegativeCount), ("loop.example/lib-g01191/impl.errSink", laid_loop_example_lib_g01191_impl_errSink)] }
def FnWriteRunesSaid : Prop := fnWriteRunesRow.holds Tryd.pinned (OpenSpec.ofChange fnWriteRunesSpec)

/-- ITS FALSE NEIGHBOUR: 'it returns false'. Refute it at one input. -/
def fnWriteRunesWrong : ChangeSpec := { name := "fnWriteRunes", vars := ["loop.example/lib-g01191/impl.errSink"], fn := fun _ => fun
  | [d1, d2, g1] => { results := [.lit (.bool false)], args := [d1, d2], vars := [g1] }
  | _ => none }
def FnWriteRunesWrongFalsely : Prop := fnWriteRunesRow.holds Tryd.pinned (OpenSpec.ofChange fnWriteRunesWrong)

/-- 'laws.FnWriteStrings': WHATEVER THE INPUT: true; the input reads as it did. -/
def fnWriteStringsSpec : ChangeSpec := { name := "fnWriteStrings", vars := ["loop.example/lib-g01191/impl.errSink"], fn := fun _ => fun
  | [d1, d2, d3, g1] => { results := [.lit (.bool true)], args := [d1, d2, d3], vars := [g1] }
  | _ => none }
def fnWriteStringsRow : OpenClaim := { program := "ytjihbkmbbcdnfaadoor", sum := "049ec70c492a8595a9dbdc8455d57d1cd006e00484f9dbba0e7a208163b24bf3", func := "loop.example/lib-g01191/laws.FnWriteStrings", spec := "fnWriteStrings", unfollowed := true, recurses := true, named := ["io.ErrShortWrite", "io.EOF", "bufio.ErrBufferFull", "bufio.ErrNegativeCount", "bufio.ErrInvalidUnreadByte", "bufio.ErrInvalidUnreadRune", "io.ErrNoProgress", "loop.example/lib-g01191/impl.errSink"], ifaces := true, apart := false, laid := [("io.ErrShortWrite", laid_io_ErrShortWrite), ("io.EOF", laid_io_EOF), ("io.ErrNoProgress", laid_io_ErrNoProgress), ("bufio.ErrInvalidUnreadByte", laid_bufio_ErrInvalidUnreadByte), ("bufio.ErrInvalidUnreadRune", laid_bufio_ErrInvalidUnreadRune), ("bufio.ErrBufferFull", laid_bufio_ErrBufferFull), ("bufio.ErrNegativeCount", laid_bufio_ErrNegativeCount), ("loop.example/lib-g01191/impl.errSink", laid_loop_example_lib_g01191_impl_errSink)] }
def FnWriteStringsSaid : Prop := fnWriteStringsRow.holds Tryd.pinned (OpenSpec.ofChange fnWriteStringsSpec)

/-- ITS FALSE NEIGHBOUR: 'it returns false'. Refute it at one input. -/
def fnWriteStringsWrong : ChangeSpec := { name := "fnWriteStrings", vars := ["loop.example/lib-g01191/impl.errSink"], fn := fun _ => fun
  | [d1, d2, d3, g1] => { results := [.lit (.bool false)], args := [d1, d2, d3], vars := [g1] }
  | _ => none }
def FnWriteStringsWrongFalsely : Prop := fnWriteStringsRow.holds Tryd.pinned (OpenSpec.ofChange fnWriteStringsWrong)

/-- 'laws.FnWriterAllowed': WHATEVER THE INPUT: true; the input reads as it did. -/
def fnWriterAllowedSpec : ChangeSpec := { name := "fnWriterAllowed", vars := ["loop.example/lib-g01191/impl.errSink"], fn := fun _ => fun
  | [d1, d2, d3, d4, d5, d6, g1] => { results := [.lit (.bool true)], args := [d1, d2, d3, d4, d5, d6], vars := [g1] }
  | _ => none }
def fnWriterAllowedRow : OpenClaim := { program := "ytjihbkmbbcdnfaadoor", sum := "049ec70c492a8595a9dbdc8455d57d1cd006e00484f9dbba0e7a208163b24bf3", func := "loop.example/lib-g01191/laws.FnWriterAllowed", spec := "fnWriterAllowed", unfollowed := true, recurses := true, named := ["io.ErrShortWrite", "io.EOF", "bufio.ErrBufferFull", "bufio.ErrNegativeCount", "bufio.ErrInvalidUnreadByte", "bufio.ErrInvalidUnreadRune", "io.ErrNoProgress", "loop.example/lib-g01191/impl.errSink"], ifaces := true, apart := false, laid := [("io.ErrShortWrite", laid_io_ErrShortWrite), ("io.EOF", laid_io_EOF), ("io.ErrNoProgress", laid_io_ErrNoProgress), ("bufio.ErrInvalidUnreadByte", laid_bufio_ErrInvalidUnreadByte), ("bufio.ErrInvalidUnreadRune", laid_bufio_ErrInvalidUnreadRune), ("bufio.ErrBufferFull", laid_bufio_ErrBufferFull), ("bufio.ErrNegativeCount", laid_bufio_ErrNegativeCount), ("loop.example/lib-g01191/impl.errSink", laid_loop_example_lib_g01191_impl_errSink)] }
def FnWriterAllowedSaid : Prop := fnWriterAllowedRow.holds Tryd.pinned (OpenSpec.ofChange fnWriterAllowedSpec)

/-- ITS FALSE NEIGHBOUR: 'it returns false'. Refute it at one input. -/
def fnWriterAllowedWrong : ChangeSpec := { name := "fnWriterAllowed", vars := ["loop.example/lib-g01191/impl.errSink"], fn := fun _ => fun
  | [d1, d2, d3, d4, d5, d6, g1] => { results := [.lit (.bool false)], args := [d1, d2, d3, d4, d5, d6], vars := [g1] }
  | _ => none }
def FnWriterAllowedWrongFalsely : Prop := fnWriterAllowedRow.holds Tryd.pinned (OpenSpec.ofChange fnWriterAllowedWrong)

/-- 'laws.FnWritten': WHATEVER THE INPUT: true; the input reads as it did. -/
def fnWrittenSpec : ChangeSpec := { name := "fnWritten", vars := ["loop.example/lib-g01191/impl.errSink"], fn := fun _ => fun
  | [d1, d2, d3, d4, g1] => { results := [.lit (.bool true)], args := [d1, d2, d3, d4], vars := [g1] }
  | _ => none }
def fnWrittenRow : OpenClaim := { program := "ytjihbkmbbcdnfaadoor", sum := "049ec70c492a8595a9dbdc8455d57d1cd006e00484f9dbba0e7a208163b24bf3", func := "loop.example/lib-g01191/laws.FnWritten", spec := "fnWritten", unfollowed := true, recurses := true, named := ["io.ErrShortWrite", "io.EOF", "bufio.ErrBufferFull", "bufio.ErrNegativeCount", "bufio.ErrInvalidUnreadByte", "bufio.ErrInvalidUnreadRune", "io.ErrNoProgress", "loop.example/lib-g01191/impl.errSink"], ifaces := true, apart := false, laid := [("io.ErrShortWrite", laid_io_ErrShortWrite), ("io.EOF", laid_io_EOF), ("io.ErrNoProgress", laid_io_ErrNoProgress), ("bufio.ErrInvalidUnreadByte", laid_bufio_ErrInvalidUnreadByte), ("bufio.ErrInvalidUnreadRune", laid_bufio_ErrInvalidUnreadRune), ("bufio.ErrBufferFull", laid_bufio_ErrBufferFull), ("bufio.ErrNegativeCount", laid_bufio_ErrNegativeCount), ("loop.example/lib-g01191/impl.errSink", laid_loop_example_lib_g01191_impl_errSink)] }
def FnWrittenSaid : Prop := fnWrittenRow.holds Tryd.pinned (OpenSpec.ofChange fnWrittenSpec)

/-- ITS FALSE NEIGHBOUR: 'it returns false'. Refute it at one input. -/
def fnWrittenWrong : ChangeSpec := { name := "fnWritten", vars := ["loop.example/lib-g01191/impl.errSink"], fn := fun _ => fun
  | [d1, d2, d3, d4, g1] => { results := [.lit (.bool false)], args := [d1, d2, d3, d4], vars := [g1] }
  | _ => none }
def FnWrittenWrongFalsely : Prop := fnWrittenRow.holds Tryd.pinned (OpenSpec.ofChange fnWrittenWrong)

/-- 'laws.FnWriterReset': WHATEVER THE INPUT: true; the input reads as it did. -/
def fnWriterResetSpec : ChangeSpec := { name := "fnWriterReset", vars := ["loop.example/lib-g01191/impl.errSink"], fn := fun _ => fun
  | [d1, d2, d3, d4, d5, g1] => { results := [.lit (.bool true)], args := [d1, d2, d3, d4, d5], vars := [g1] }
  | _ => none }
def fnWriterResetRow : OpenClaim := { program := "ytjihbkmbbcdnfaadoor", sum := "049ec70c492a8595a9dbdc8455d57d1cd006e00484f9dbba0e7a208163b24bf3", func := "loop.example/lib-g01191/laws.FnWriterReset", spec := "fnWriterReset", unfollowed := true, recurses := true, named := ["io.ErrShortWrite", "io.EOF", "bufio.ErrBufferFull", "bufio.ErrNegativeCount", "bufio.ErrInvalidUnreadByte", "bufio.ErrInvalidUnreadRune", "io.ErrNoProgress", "loop.example/lib-g01191/impl.errSink"], ifaces := true, apart := false, laid := [("io.ErrShortWrite", laid_io_ErrShortWrite), ("io.EOF", laid_io_EOF), ("io.ErrNoProgress", laid_io_ErrNoProgress), ("bufio.ErrInvalidUnreadByte", laid_bufio_ErrInvalidUnreadByte), ("bufio.ErrInvalidUnreadRune", laid_bufio_ErrInvalidUnreadRune), ("bufio.ErrBufferFull", laid_bufio_ErrBufferFull), ("bufio.ErrNegativeCount", laid_bufio_ErrNegativeCount), ("loop.example/lib-g01191/impl.errSink", laid_loop_example_lib_g01191_impl_errSink)] }
def FnWriterResetSaid : Prop := fnWriterResetRow.holds Tryd.pinned (OpenSpec.ofChange fnWriterResetSpec)

/-- ITS FALSE NEIGHBOUR: 'it returns false'. Refute it at one input. -/
def fnWriterResetWrong : ChangeSpec := { name := "fnWriterReset", vars := ["loop.example/lib-g01191/impl.errSink"], fn := fun _ => fun
  | [d1, d2, d3, d4, d5, g1] => { results := [.lit (.bool false)], args := [d1, d2, d3, d4, d5], vars := [g1] }
  | _ => none }
def FnWriterResetWrongFalsely : Prop := fnWriterResetRow.holds Tryd.pinned (OpenSpec.ofChange fnWriterResetWrong)

/- THE SECOND FORM. 'bulk': how many values and letters a reading holds, each counted each time it is reached (what is shared counts as often as it is met; a slice's spare places count too). A statement '..UptoSaid' is the law's where the arguments, and the package variables that the reading takes, are together of bulk at most 1048576: NARROWER than '..Said'. Prove '..Said' where nothing that the law and all that it calls make is longer than what came in: it says more and counts as full. Else prove '..UptoSaid'. A law counts once. -/
mutual
def uptoBulk {H : Type} : DataW H → Nat
  | .lit (.string bytes) => bytes.length + 1
  | .lit _ => 1
  | .nil => 1
  | .ptr d => uptoBulk d + 1
  | .slice elems spare => uptoBulkAll elems + uptoBulkAll spare + 1
  | .agg parts => uptoBulkAll parts + 1
  | .iface _ d => uptoBulk d + 1
  | .map entries => uptoBulkEntries entries + 1
  | .held _ => 1
def uptoBulkAll {H : Type} : List (DataW H) → Nat
  | [] => 0
  | d :: r => uptoBulk d + uptoBulkAll r
def uptoBulkEntries {H : Type} : List (Lit × DataW H) → Nat
  | [] => 0
  | x :: r => uptoBulkEntry x + uptoBulkEntries r
def uptoBulkEntry {H : Type} : Lit × DataW H → Nat
  | (.string bytes, d) => bytes.length + uptoBulk d + 1
  | (_, d) => uptoBulk d + 1
 end
def uptoSmall : (H : Type) → List (DataW H) → Bool := fun _ ds => decide (uptoBulkAll ds ≤ 1048576)
def OpenSpec.upto (s : _root_.Go.ChangeSpec) : _root_.Go.OpenSpec := { _root_.Go.OpenSpec.ofChange s with cond := some uptoSmall }

/-- 'laws.FnExactWriteAll', WHERE WHAT IT READS IS OF BULK AT MOST 1048576: true; the input reads as it did. -/
def fnExactWriteAllUptoRow : OpenClaim := { program := "ytjihbkmbbcdnfaadoor", sum := "049ec70c492a8595a9dbdc8455d57d1cd006e00484f9dbba0e7a208163b24bf3", func := "loop.example/lib-g01191/laws.FnExactWriteAll", spec := "fnExactWriteAll", unfollowed := true, recurses := true, named := ["io.ErrShortWrite", "io.EOF", "bufio.ErrBufferFull", "bufio.ErrNegativeCount", "bufio.ErrInvalidUnreadByte", "bufio.ErrInvalidUnreadRune", "io.ErrNoProgress", "loop.example/lib-g01191/impl.errSink"], ifaces := true, apart := false, laid := [("io.ErrShortWrite", laid_io_ErrShortWrite), ("io.EOF", laid_io_EOF), ("io.ErrNoProgress", laid_io_ErrNoProgress), ("bufio.ErrInvalidUnreadByte", laid_bufio_ErrInvalidUnreadByte), ("bufio.ErrInvalidUnreadRune", laid_bufio_ErrInvalidUnreadRune), ("bufio.ErrBufferFull", laid_bufio_ErrBufferFull), ("bufio.ErrNegativeCount", laid_bufio_ErrNegativeCount), ("loop.example/lib-g01191/impl.errSink", laid_loop_example_lib_g01191_impl_errSink)], narrowed := true }
def FnExactWriteAllUptoSaid : Prop := fnExactWriteAllUptoRow.holds Tryd.pinned (OpenSpec.upto fnExactWriteAllSpec)

/-- 'laws.FnPartsAlike', WHERE WHAT IT READS IS OF BULK AT MOST 1048576: true; the input reads as it did. -/
def fnPartsAlikeUptoRow : OpenClaim := { program := "ytjihbkmbbcdnfaadoor", sum := "049ec70c492a8595a9dbdc8455d57d1cd006e00484f9dbba0e7a208163b24bf3", func := "loop.example/lib-g01191/laws.FnPartsAlike", spec := "fnPartsAlike", unfollowed := true, recurses := true, named := ["io.ErrShortWrite", "io.EOF", "bufio.ErrBufferFull", "bufio.ErrNegativeCount", "bufio.ErrInvalidUnreadByte", "bufio.ErrInvalidUnreadRune", "io.ErrNoProgress", "loop.example/lib-g01191/impl.errSink"], ifaces := true, apart := false, laid := [("io.ErrShortWrite", laid_io_ErrShortWrite), ("io.EOF", laid_io_EOF), ("io.ErrNoProgress", laid_io_ErrNoProgress), ("bufio.ErrInvalidUnreadByte", laid_bufio_ErrInvalidUnreadByte), ("bufio.ErrInvalidUnreadRune", laid_bufio_ErrInvalidUnreadRune), ("bufio.ErrBufferFull", laid_bufio_ErrBufferFull), ("bufio.ErrNegativeCount", laid_bufio_ErrNegativeCount), ("loop.example/lib-g01191/impl.errSink", laid_loop_example_lib_g01191_impl_errSink)], narrowed := true }
def FnPartsAlikeUptoSaid : Prop := fnPartsAlikeUptoRow.holds Tryd.pinned (OpenSpec.upto fnPartsAlikeSpec)

/-- 'laws.FnWriteAll', WHERE WHAT IT READS IS OF BULK AT MOST 1048576: true; the input reads as it did. -/
def fnWriteAllUptoRow : OpenClaim := { program := "ytjihbkmbbcdnfaadoor", sum := "049ec70c492a8595a9dbdc8455d57d1cd006e00484f9dbba0e7a208163b24bf3", func := "loop.example/lib-g01191/laws.FnWriteAll", spec := "fnWriteAll", unfollowed := true, recurses := true, named := ["io.ErrShortWrite", "io.EOF", "bufio.ErrBufferFull", "bufio.ErrNegativeCount", "bufio.ErrInvalidUnreadByte", "bufio.ErrInvalidUnreadRune", "io.ErrNoProgress", "loop.example/lib-g01191/impl.errSink"], ifaces := true, apart := false, laid := [("io.ErrShortWrite", laid_io_ErrShortWrite), ("io.EOF", laid_io_EOF), ("io.ErrNoProgress", laid_io_ErrNoProgress), ("bufio.ErrInvalidUnreadByte", laid_bufio_ErrInvalidUnreadByte), ("bufio.ErrInvalidUnreadRune", laid_bufio_ErrInvalidUnreadRune), ("bufio.ErrBufferFull", laid_bufio_ErrBufferFull), ("bufio.ErrNegativeCount", laid_bufio_ErrNegativeCount), ("loop.example/lib-g01191/impl.errSink", laid_loop_example_lib_g01191_impl_errSink)], narrowed := true }
def FnWriteAllUptoSaid : Prop := fnWriteAllUptoRow.holds Tryd.pinned (OpenSpec.upto fnWriteAllSpec)

/-- 'laws.FnSticky', WHERE WHAT IT READS IS OF BULK AT MOST 1048576: true; the input reads as it did. -/
def fnStickyUptoRow : OpenClaim := { program := "ytjihbkmbbcdnfaadoor", sum := "049ec70c492a8595a9dbdc8455d57d1cd006e00484f9dbba0e7a208163b24bf3", func := "loop.example/lib-g01191/laws.FnSticky", spec := "fnSticky", unfollowed := true, recurses := true, named := ["io.ErrShortWrite", "io.EOF", "bufio.ErrBufferFull", "bufio.ErrNegativeCount", "bufio.ErrInvalidUnreadByte", "bufio.ErrInvalidUnreadRune", "io.ErrNoProgress", "loop.example/lib-g01191/impl.errSink"], ifaces := true, apart := false, laid := [("io.ErrShortWrite", laid_io_ErrShortWrite), ("io.EOF", laid_io_EOF), ("io.ErrNoProgress", laid_io_ErrNoProgress), ("bufio.ErrInvalidUnreadByte", laid_bufio_ErrInvalidUnreadByte), ("bufio.ErrInvalidUnreadRune", laid_bufio_ErrInvalidUnreadRune), ("bufio.ErrBufferFull", laid_bufio_ErrBufferFull), ("bufio.ErrNegativeCount", laid_bufio_ErrNegativeCount), ("loop.example/lib-g01191/impl.errSink", laid_loop_example_lib_g01191_impl_errSink)], narrowed := true }
def FnStickyUptoSaid : Prop := fnStickyUptoRow.holds Tryd.pinned (OpenSpec.upto fnStickySpec)

/-- 'laws.FnWriteRunes', WHERE WHAT IT READS IS OF BULK AT MOST 1048576: true; the input reads as it did. -/
def fnWriteRunesUptoRow : OpenClaim := { program := "ytjihbkmbbcdnfaadoor", sum := "049ec70c492a8595a9dbdc8455d57d1cd006e00484f9dbba0e7a208163b24bf3", func := "loop.example/lib-g01191/laws.FnWriteRunes", spec := "fnWriteRunes", unfollowed := true, recurses := true, named := ["io.ErrShortWrite", "io.EOF", "bufio.ErrBufferFull", "bufio.ErrNegativeCount", "bufio.ErrInvalidUnreadByte", "bufio.ErrInvalidUnreadRune", "io.ErrNoProgress", "loop.example/lib-g01191/impl.errSink"], ifaces := true, apart := false, laid := [("io.ErrShortWrite", laid_io_ErrShortWrite), ("io.EOF", laid_io_EOF), ("io.ErrNoProgress", laid_io_ErrNoProgress), ("bufio.ErrInvalidUnreadByte", laid_bufio_ErrInvalidUnreadByte), ("bufio.ErrInvalidUnreadRune", laid_bufio_ErrInvalidUnreadRune), ("bufio.ErrBufferFull", laid_bufio_ErrBufferFull), ("bufio.ErrNegativeCount", laid_bufio_ErrNegativeCount), ("loop.example/lib-g01191/impl.errSink", laid_loop_example_lib_g01191_impl_errSink)], narrowed := true }
def FnWriteRunesUptoSaid : Prop := fnWriteRunesUptoRow.holds Tryd.pinned (OpenSpec.upto fnWriteRunesSpec)

/-- 'laws.FnWriteStrings', WHERE WHAT IT READS IS OF BULK AT MOST 1048576: true; the input reads as it did. -/
def fnWriteStringsUptoRow : OpenClaim := { program := "ytjihbkmbbcdnfaadoor", sum := "049ec70c492a8595a9dbdc8455d57d1cd006e00484f9dbba0e7a208163b24bf3", func := "loop.example/lib-g01191/laws.FnWriteStrings", spec := "fnWriteStrings", unfollowed := true, recurses := true, named := ["io.ErrShortWrite", "io.EOF", "bufio.ErrBufferFull", "bufio.ErrNegativeCount", "bufio.ErrInvalidUnreadByte", "bufio.ErrInvalidUnreadRune", "io.ErrNoProgress", "loop.example/lib-g01191/impl.errSink"], ifaces := true, apart := false, laid := [("io.ErrShortWrite", laid_io_ErrShortWrite), ("io.EOF", laid_io_EOF), ("io.ErrNoProgress", laid_io_ErrNoProgress), ("bufio.ErrInvalidUnreadByte", laid_bufio_ErrInvalidUnreadByte), ("bufio.ErrInvalidUnreadRune", laid_bufio_ErrInvalidUnreadRune), ("bufio.ErrBufferFull", laid_bufio_ErrBufferFull), ("bufio.ErrNegativeCount", laid_bufio_ErrNegativeCount), ("loop.example/lib-g01191/impl.errSink", laid_loop_example_lib_g01191_impl_errSink)], narrowed := true }
def FnWriteStringsUptoSaid : Prop := fnWriteStringsUptoRow.holds Tryd.pinned (OpenSpec.upto fnWriteStringsSpec)

/-- 'laws.FnWriterAllowed', WHERE WHAT IT READS IS OF BULK AT MOST 1048576: true; the input reads as it did. -/
def fnWriterAllowedUptoRow : OpenClaim := { program := "ytjihbkmbbcdnfaadoor", sum := "049ec70c492a8595a9dbdc8455d57d1cd006e00484f9dbba0e7a208163b24bf3", func := "loop.example/lib-g01191/laws.FnWriterAllowed", spec := "fnWriterAllowed", unfollowed := true, recurses := true, named := ["io.ErrShortWrite", "io.EOF", "bufio.ErrBufferFull", "bufio.ErrNegativeCount", "bufio.ErrInvalidUnreadByte", "bufio.ErrInvalidUnreadRune", "io.ErrNoProgress", "loop.example/lib-g01191/impl.errSink"], ifaces := true, apart := false, laid := [("io.ErrShortWrite", laid_io_ErrShortWrite), ("io.EOF", laid_io_EOF), ("io.ErrNoProgress", laid_io_ErrNoProgress), ("bufio.ErrInvalidUnreadByte", laid_bufio_ErrInvalidUnreadByte), ("bufio.ErrInvalidUnreadRune", laid_bufio_ErrInvalidUnreadRune), ("bufio.ErrBufferFull", laid_bufio_ErrBufferFull), ("bufio.ErrNegativeCount", laid_bufio_ErrNegativeCount), ("loop.example/lib-g01191/impl.errSink", laid_loop_example_lib_g01191_impl_errSink)], narrowed := true }
def FnWriterAllowedUptoSaid : Prop := fnWriterAllowedUptoRow.holds Tryd.pinned (OpenSpec.upto fnWriterAllowedSpec)

/-- 'laws.FnWritten', WHERE WHAT IT READS IS OF BULK AT MOST 1048576: true; the input reads as it did. -/
def fnWrittenUptoRow : OpenClaim := { program := "ytjihbkmbbcdnfaadoor", sum := "049ec70c492a8595a9dbdc8455d57d1cd006e00484f9dbba0e7a208163b24bf3", func := "loop.example/lib-g01191/laws.FnWritten", spec := "fnWritten", unfollowed := true, recurses := true, named := ["io.ErrShortWrite", "io.EOF", "bufio.ErrBufferFull", "bufio.ErrNegativeCount", "bufio.ErrInvalidUnreadByte", "bufio.ErrInvalidUnreadRune", "io.ErrNoProgress", "loop.example/lib-g01191/impl.errSink"], ifaces := true, apart := false, laid := [("io.ErrShortWrite", laid_io_ErrShortWrite), ("io.EOF", laid_io_EOF), ("io.ErrNoProgress", laid_io_ErrNoProgress), ("bufio.ErrInvalidUnreadByte", laid_bufio_ErrInvalidUnreadByte), ("bufio.ErrInvalidUnreadRune", laid_bufio_ErrInvalidUnreadRune), ("bufio.ErrBufferFull", laid_bufio_ErrBufferFull), ("bufio.ErrNegativeCount", laid_bufio_ErrNegativeCount), ("loop.example/lib-g01191/impl.errSink", laid_loop_example_lib_g01191_impl_errSink)], narrowed := true }
def FnWrittenUptoSaid : Prop := fnWrittenUptoRow.holds Tryd.pinned (OpenSpec.upto fnWrittenSpec)

/-- 'laws.FnWriterReset', WHERE WHAT IT READS IS OF BULK AT MOST 1048576: true; the input reads as it did. -/
def fnWriterResetUptoRow : OpenClaim := { program := "ytjihbkmbbcdnfaadoor", sum := "049ec70c492a8595a9dbdc8455d57d1cd006e00484f9dbba0e7a208163b24bf3", func := "loop.example/lib-g01191/laws.FnWriterReset", spec := "fnWriterReset", unfollowed := true, recurses := true, named := ["io.ErrShortWrite", "io.EOF", "bufio.ErrBufferFull", "bufio.ErrNegativeCount", "bufio.ErrInvalidUnreadByte", "bufio.ErrInvalidUnreadRune", "io.ErrNoProgress", "loop.example/lib-g01191/impl.errSink"], ifaces := true, apart := false, laid := [("io.ErrShortWrite", laid_io_ErrShortWrite), ("io.EOF", laid_io_EOF), ("io.ErrNoProgress", laid_io_ErrNoProgress), ("bufio.ErrInvalidUnreadByte", laid_bufio_ErrInvalidUnreadByte), ("bufio.ErrInvalidUnreadRune", laid_bufio_ErrInvalidUnreadRune), ("bufio.ErrBufferFull", laid_bufio_ErrBufferFull), ("bufio.ErrNegativeCount", laid_bufio_ErrNegativeCount), ("loop.example/lib-g01191/impl.errSink", laid_loop_example_lib_g01191_impl_errSink)], narrowed := true }
def FnWriterResetUptoSaid : Prop := fnWriterResetUptoRow.holds Tryd.pinned (OpenSpec.upto fnWriterResetSpec)

end Rows
end Go.Proofs.YtjihbkmbbcdnfaaDoor

/-
  What the row's list of FnRunesWritten gives: the errors' facts, and the library's two tables.
-/
import Derived.Test.YtfigpbcmnlkdjaaDoorErrsR
import Derived.Test.YtfigpbcmnlkdjaaDoorFullR
import Derived.Lib.LaidU8T
import Derived.PinnedBridge
import Derived.Lay
namespace Go.Proofs.YtfigpbcmnlkdjaaDoor
open Go.RowKit Go.ChangeShapes Go.Shelf

def laidU : List (String × DataW Unit) := [("unicode/utf8.acceptRanges", Rows.laid_unicode_utf8_acceptRanges), ("io.ErrShortWrite", Rows.laid_io_ErrShortWrite), ("io.EOF", Rows.laid_io_EOF), ("io.ErrNoProgress", Rows.laid_io_ErrNoProgress), ("bufio.ErrInvalidUnreadByte", Rows.laid_bufio_ErrInvalidUnreadByte), ("bufio.ErrInvalidUnreadRune", Rows.laid_bufio_ErrInvalidUnreadRune), ("bufio.ErrBufferFull", Rows.laid_bufio_ErrBufferFull), ("bufio.ErrNegativeCount", Rows.laid_bufio_ErrNegativeCount), ("bufio.errNegativeRead", Rows.laid_bufio_errNegativeRead), ("loop.example/lib-g01191/impl.errSink", Rows.laid_loop_example_lib_g01191_impl_errSink), ("unicode/utf8.first", Rows.laid_unicode_utf8_first)]

/-- The numbers of the tables and of their types. -/
def tabRen : Ren := ⟨fun n => n, fun n => if n = 5 then 5 else if n = 119 then 89 else if n = 138 then 91 else if n = 139 then 92 else 0, fun n => if n = 3 then 9 else if n = 4 then 10 else 0⟩
theorem tabTypes : U8Types Tryd.prog tabRen := ⟨by kernel_rfl, by kernel_rfl, by kernel_rfl, by kernel_rfl⟩
theorem tabExtra : U8Extra Tryd.prog tabRen := ⟨by kernel_rfl, by kernel_rfl, by kernel_rfl, by kernel_rfl, by kernel_rfl, by kernel_rfl, by kernel_rfl⟩
theorem acceptEq : (Rows.laid_unicode_utf8_acceptRanges : DataW Unit) = Lib.acceptData := by kernel_rfl
theorem firstEq : Rows.laid_unicode_utf8_first = Lib.firstData := by kernel_rfl

theorem tabs_of_laid {W : World} (h : laidMet Tryd.prog laidU W) : Tabs W := by
  have h3 : Lib.VarReads Tryd.prog W "unicode/utf8.first" Lib.firstData := firstEq ▸ Lib.laidMet.reads h (by simp [laidU])
  have h4 : Lib.VarReads Tryd.prog W "unicode/utf8.acceptRanges" Lib.acceptData := acceptEq ▸ Lib.laidMet.reads h (by simp [laidU])
  exact utf8Tabs_of_readsT tabTypes tabExtra h3 h4

theorem errs_of_laidU {W : World} (h : laidMetH Tryd.prog laidU W) : ∃ ad, Errs W W.heap.size ad ∧ W.var? Tryd.prog "loop.example/lib-g01191/impl.errSink" = some #[.iface 93 (.pointer (some (ad 7)))] ∧ Tabs W ∧ (9 < W.heap.size ∧ 10 < W.heap.size) := by
  rw [MakeChecks.laidMetH_plain _ _ _ (by kernel_rfl)] at h
  have hT := tabs_of_laid h
  have h1 := hT.1 0 (by omega)
  have h2 := (hT.2 0 (by omega)).1
  have la : laidMet Tryd.prog (("unicode/utf8.acceptRanges", Rows.laid_unicode_utf8_acceptRanges) :: _) W := h
  have l6 : laidMet Tryd.prog (("io.ErrShortWrite", .iface "*errors.errorString" (.ptr (.agg [.lit (.string (errText 6))]))) :: _) W := la.tail
  have l0 : laidMet Tryd.prog (("io.EOF", .iface "*errors.errorString" (.ptr (.agg [.lit (.string (errText 0))]))) :: _) W := l6.tail
  have l5 : laidMet Tryd.prog (("io.ErrNoProgress", .iface "*errors.errorString" (.ptr (.agg [.lit (.string (errText 5))]))) :: _) W := l0.tail
  have l3 : laidMet Tryd.prog (("bufio.ErrInvalidUnreadByte", .iface "*errors.errorString" (.ptr (.agg [.lit (.string (errText 3))]))) :: _) W := l5.tail
  have l4 : laidMet Tryd.prog (("bufio.ErrInvalidUnreadRune", .iface "*errors.errorString" (.ptr (.agg [.lit (.string (errText 4))]))) :: _) W := l3.tail
  have l1 : laidMet Tryd.prog (("bufio.ErrBufferFull", .iface "*errors.errorString" (.ptr (.agg [.lit (.string (errText 1))]))) :: _) W := l4.tail
  have l2 : laidMet Tryd.prog (("bufio.ErrNegativeCount", .iface "*errors.errorString" (.ptr (.agg [.lit (.string (errText 2))]))) :: _) W := l1.tail
  have l8 : laidMet Tryd.prog (("bufio.errNegativeRead", Rows.laid_bufio_errNegativeRead) :: _) W := l2.tail
  have l7 : laidMet Tryd.prog (("loop.example/lib-g01191/impl.errSink", .iface "*errors.errorString" (.ptr (.agg [.lit (.string (errText 7))]))) :: _) W := l8.tail
  obtain ⟨a0, s0, v0, c0, x0, b0⟩ := sentinel_head l0 gn0 gt0
  obtain ⟨a1, s1, v1, c1, x1, b1⟩ := sentinel_head l1 gn1 gt1
  obtain ⟨a2, s2, v2, c2, x2, b2⟩ := sentinel_head l2 gn2 gt2
  obtain ⟨a3, s3, v3, c3, x3, b3⟩ := sentinel_head l3 gn3 gt3
  obtain ⟨a4, s4, v4, c4, x4, b4⟩ := sentinel_head l4 gn4 gt4
  obtain ⟨a5, s5, v5, c5, x5, b5⟩ := sentinel_head l5 gn5 gt5
  obtain ⟨a6, s6, v6, c6, x6, b6⟩ := sentinel_head l6 gn6 gt6
  obtain ⟨a7, s7, v7, c7, x7, b7⟩ := sentinel_head l7 gn7 gt7
  have key : ∀ i : Fin 8, ∃ s, W.cell? ([a0, a1, a2, a3, a4, a5, a6, a7].getD i.val a0) = some (.string s) ∧ s.data.toList = errText i.val := by
    intro i
    match i with
    | ⟨0, _⟩ => exact ⟨s0, c0, x0⟩
    | ⟨1, _⟩ => exact ⟨s1, c1, x1⟩
    | ⟨2, _⟩ => exact ⟨s2, c2, x2⟩
    | ⟨3, _⟩ => exact ⟨s3, c3, x3⟩
    | ⟨4, _⟩ => exact ⟨s4, c4, x4⟩
    | ⟨5, _⟩ => exact ⟨s5, c5, x5⟩
    | ⟨6, _⟩ => exact ⟨s6, c6, x6⟩
    | ⟨7, _⟩ => exact ⟨s7, c7, x7⟩
  refine ⟨fun i => [a0, a1, a2, a3, a4, a5, a6, a7].getD i a0, ⟨errAt_of gn0 v0 b0, errAt_of gn1 v1 b1, errAt_of gn2 v2 b2, errAt_of gn3 v3 b3, errAt_of gn4 v4 b4, errAt_of gn5 v5 b5, errAt_of gn6 v6 b6, errAt_of gn7 v7 b7, fun i j hi hj hij => ?_⟩, v7, hT, World.block_lt_of_cell? W _ h1, World.block_lt_of_cell? W _ h2⟩
  obtain ⟨s, hs, xs⟩ := key ⟨i, by omega⟩
  obtain ⟨t, ht, xt⟩ := key ⟨j, by omega⟩
  exact text_ne hs xs ht xt (errText_ne ⟨i, by omega⟩ ⟨j, by omega⟩ (fun e => hij (by simpa using e)))
end Go.Proofs.YtfigpbcmnlkdjaaDoor

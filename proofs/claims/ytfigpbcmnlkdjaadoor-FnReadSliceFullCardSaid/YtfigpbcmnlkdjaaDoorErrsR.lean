/-
  The errors' facts out of the row's list, of a reader's law.
-/
import Derived.Test.YtfigpbcmnlkdjaaDoorLaid
import Derived.Test.YtfigpbcmnlkdjaaDoorCopied
import Derived.Deep.Matrix
import Derived.OpenShut
namespace Go.Proofs.YtfigpbcmnlkdjaaDoor
open Go.RowKit Go.ChangeShapes Go.Deep

def errText (i : Nat) : List UInt8 :=
  match i with
  | 0 => [69, 79, 70]
  | 1 => [98, 117, 102, 105, 111, 58, 32, 98, 117, 102, 102, 101, 114, 32, 102, 117, 108, 108]
  | 2 => [98, 117, 102, 105, 111, 58, 32, 110, 101, 103, 97, 116, 105, 118, 101, 32, 99, 111, 117, 110, 116]
  | 3 => [98, 117, 102, 105, 111, 58, 32, 105, 110, 118, 97, 108, 105, 100, 32, 117, 115, 101, 32, 111, 102, 32, 85, 110, 114, 101, 97, 100, 66, 121, 116, 101]
  | 4 => [98, 117, 102, 105, 111, 58, 32, 105, 110, 118, 97, 108, 105, 100, 32, 117, 115, 101, 32, 111, 102, 32, 85, 110, 114, 101, 97, 100, 82, 117, 110, 101]
  | 5 => [109, 117, 108, 116, 105, 112, 108, 101, 32, 82, 101, 97, 100, 32, 99, 97, 108, 108, 115, 32, 114, 101, 116, 117, 114, 110, 32, 110, 111, 32, 100, 97, 116, 97, 32, 111, 114, 32, 101, 114, 114, 111, 114]
  | 6 => [115, 104, 111, 114, 116, 32, 119, 114, 105, 116, 101]
  | _ => [115, 105, 110, 107]

theorem errText_ne : ∀ i j : Fin 8, i ≠ j → errText i.val ≠ errText j.val := by decide

theorem gn0 : Tryd.prog.globalNamed "io.EOF" = some 1 := by kernel_rfl
theorem gn1 : Tryd.prog.globalNamed "bufio.ErrBufferFull" = some 0 := by kernel_rfl
theorem gn2 : Tryd.prog.globalNamed "bufio.ErrNegativeCount" = some 2 := by kernel_rfl
theorem gn3 : Tryd.prog.globalNamed "bufio.ErrInvalidUnreadByte" = some 3 := by kernel_rfl
theorem gn4 : Tryd.prog.globalNamed "bufio.ErrInvalidUnreadRune" = some 4 := by kernel_rfl
theorem gn5 : Tryd.prog.globalNamed "io.ErrNoProgress" = some 5 := by kernel_rfl
theorem gn6 : Tryd.prog.globalNamed "io.ErrShortWrite" = some 6 := by kernel_rfl
theorem gn7 : Tryd.prog.globalNamed "loop.example/lib-g01191/impl.errSink" = some 7 := by kernel_rfl
theorem gt0 : (Tryd.prog.globals[1]?).map (·.type) = some 54 := by kernel_rfl
theorem gt1 : (Tryd.prog.globals[0]?).map (·.type) = some 54 := by kernel_rfl
theorem gt2 : (Tryd.prog.globals[2]?).map (·.type) = some 54 := by kernel_rfl
theorem gt3 : (Tryd.prog.globals[3]?).map (·.type) = some 54 := by kernel_rfl
theorem gt4 : (Tryd.prog.globals[4]?).map (·.type) = some 54 := by kernel_rfl
theorem gt5 : (Tryd.prog.globals[5]?).map (·.type) = some 54 := by kernel_rfl
theorem gt6 : (Tryd.prog.globals[6]?).map (·.type) = some 54 := by kernel_rfl
theorem gt7 : (Tryd.prog.globals[7]?).map (·.type) = some 54 := by kernel_rfl

/-- The errors, as a row of a writer's law lists them. -/
def laidW : List (String × DataW Unit) := [("io.ErrShortWrite", Rows.laid_io_ErrShortWrite), ("io.EOF", Rows.laid_io_EOF), ("io.ErrNoProgress", Rows.laid_io_ErrNoProgress), ("bufio.ErrInvalidUnreadByte", Rows.laid_bufio_ErrInvalidUnreadByte), ("bufio.ErrInvalidUnreadRune", Rows.laid_bufio_ErrInvalidUnreadRune), ("bufio.ErrBufferFull", Rows.laid_bufio_ErrBufferFull), ("bufio.ErrNegativeCount", Rows.laid_bufio_ErrNegativeCount), ("bufio.errNegativeRead", Rows.laid_bufio_errNegativeRead), ("loop.example/lib-g01191/impl.errSink", Rows.laid_loop_example_lib_g01191_impl_errSink)]

theorem errs_of_laid {W : World} (h : laidMetH Tryd.prog laidW W) : ∃ ad, Errs W W.heap.size ad ∧ W.var? Tryd.prog "loop.example/lib-g01191/impl.errSink" = some #[.iface 93 (.pointer (some (ad 7)))] := by
  rw [MakeChecks.laidMetH_plain _ _ _ (by kernel_rfl)] at h
  have l6 : laidMet Tryd.prog (("io.ErrShortWrite", .iface "*errors.errorString" (.ptr (.agg [.lit (.string (errText 6))]))) :: _) W := h
  have l0 : laidMet Tryd.prog (("io.EOF", .iface "*errors.errorString" (.ptr (.agg [.lit (.string (errText 0))]))) :: _) W := l6.tail
  have l5 : laidMet Tryd.prog (("io.ErrNoProgress", .iface "*errors.errorString" (.ptr (.agg [.lit (.string (errText 5))]))) :: _) W := l0.tail
  have l3 : laidMet Tryd.prog (("bufio.ErrInvalidUnreadByte", .iface "*errors.errorString" (.ptr (.agg [.lit (.string (errText 3))]))) :: _) W := l5.tail
  have l4 : laidMet Tryd.prog (("bufio.ErrInvalidUnreadRune", .iface "*errors.errorString" (.ptr (.agg [.lit (.string (errText 4))]))) :: _) W := l3.tail
  have l1 : laidMet Tryd.prog (("bufio.ErrBufferFull", .iface "*errors.errorString" (.ptr (.agg [.lit (.string (errText 1))]))) :: _) W := l4.tail
  have l2 : laidMet Tryd.prog (("bufio.ErrNegativeCount", .iface "*errors.errorString" (.ptr (.agg [.lit (.string (errText 2))]))) :: _) W := l1.tail
  have l8 : laidMet Tryd.prog (("bufio.errNegativeRead", Rows.laid_bufio_errNegativeRead) :: _) W := l2.tail
  have l7 : laidMet Tryd.prog (("loop.example/lib-g01191/impl.errSink", .iface "*errors.errorString" (.ptr (.agg [.lit (.string (errText 7))]))) :: _) W := l8.tail
  obtain ⟨a0, s0, v0, c0, x0, b0⟩ := sentinel_head l0 gn0 gt0
  obtain ⟨a1, s1, v1, c1, x1, b1⟩ := sentinel_head l1 gn1 gt1
  obtain ⟨a2, s2, v2, c2, x2, b2⟩ := sentinel_head l2 gn2 gt2
  obtain ⟨a3, s3, v3, c3, x3, b3⟩ := sentinel_head l3 gn3 gt3
  obtain ⟨a4, s4, v4, c4, x4, b4⟩ := sentinel_head l4 gn4 gt4
  obtain ⟨a5, s5, v5, c5, x5, b5⟩ := sentinel_head l5 gn5 gt5
  obtain ⟨a6, s6, v6, c6, x6, b6⟩ := sentinel_head l6 gn6 gt6
  obtain ⟨a7, s7, v7, c7, x7, b7⟩ := sentinel_head l7 gn7 gt7
  have key : ∀ i : Fin 8, ∃ s, W.cell? ([a0, a1, a2, a3, a4, a5, a6, a7].getD i.val a0) = some (.string s) ∧ s.data.toList = errText i.val := by
    intro i
    match i with
    | ⟨0, _⟩ => exact ⟨s0, c0, x0⟩
    | ⟨1, _⟩ => exact ⟨s1, c1, x1⟩
    | ⟨2, _⟩ => exact ⟨s2, c2, x2⟩
    | ⟨3, _⟩ => exact ⟨s3, c3, x3⟩
    | ⟨4, _⟩ => exact ⟨s4, c4, x4⟩
    | ⟨5, _⟩ => exact ⟨s5, c5, x5⟩
    | ⟨6, _⟩ => exact ⟨s6, c6, x6⟩
    | ⟨7, _⟩ => exact ⟨s7, c7, x7⟩
  refine ⟨fun i => [a0, a1, a2, a3, a4, a5, a6, a7].getD i a0, ⟨errAt_of gn0 v0 b0, errAt_of gn1 v1 b1, errAt_of gn2 v2 b2, errAt_of gn3 v3 b3, errAt_of gn4 v4 b4, errAt_of gn5 v5 b5, errAt_of gn6 v6 b6, errAt_of gn7 v7 b7, fun i j hi hj hij => ?_⟩, v7⟩
  obtain ⟨s, hs, xs⟩ := key ⟨i, by omega⟩
  obtain ⟨t, ht, xt⟩ := key ⟨j, by omega⟩
  exact text_ne hs xs ht xt (errText_ne ⟨i, by omega⟩ ⟨j, by omega⟩ (fun e => hij (by simpa using e)))

/-- The bytes of integers. -/
def bytesOf (Z : List Int) (n : Nat) : List UInt8 := (Z.take n).map fun z => UInt8.ofNat z.toNat

theorem bytesOf_length {Z : List Int} {n : Nat} (h : n ≤ Z.length) : (bytesOf Z n).length = n := by simp [bytesOf]; omega

theorem bytesOf_at {Z : List Int} {n i : Nat} {u : Value} (hw : ∀ z ∈ Z, (Lit.int .u8 z).wf = true) (hu : (bytesV (bytesOf Z n))[i]? = some u) : i < n ∧ u = .int .u8 (Z.getD i 0) := by
  simp only [bytesV, bytesOf, List.getElem?_map, List.getElem?_take] at hu
  by_cases hi : i < n
  · rw [if_pos hi] at hu
    cases hz : Z[i]? with
    | none => rw [hz] at hu; simp at hu
    | some z =>
      rw [hz] at hu
      simp at hu
      refine ⟨hi, ?_⟩
      have hb := bounds_u8 (hw z (List.mem_of_getElem? hz))
      rw [← hu, List.getD_eq_getElem?_getD, hz]
      simp only [byteV, Option.getD_some]
      congr 1
      rw [UInt8.toNat_ofNat']
      omega
  · rw [if_neg hi] at hu; simp at hu
end Go.Proofs.YtfigpbcmnlkdjaaDoor

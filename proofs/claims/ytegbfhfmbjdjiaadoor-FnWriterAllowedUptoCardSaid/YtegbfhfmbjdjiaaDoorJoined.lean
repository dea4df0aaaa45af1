/-
  The walk of the laws' own joined.
-/
import Derived.Test.YtegbfhfmbjdjiaaDoorWriteAll
namespace Go.Proofs.YtegbfhfmbjdjiaaDoor
open Go.RowKit

def JInv (w : World) (ps : List (List UInt8)) (g : Nat) (o i : Value) (wr : World) : Prop :=
  ∃ (k : Nat) (a : Option Addr) (c : Nat), k ≤ ps.length ∧ i = .int .i64 k ∧ o = .slice a (joined (ps.take k)).length c ∧ wr.ownsRow w.heap.size 5 1 o (joined (ps.take k)).length (bytesV (joined (ps.take k))) ∧ New w wr ∧ g = ps.length - k

end Go.Proofs.YtegbfhfmbjdjiaaDoor

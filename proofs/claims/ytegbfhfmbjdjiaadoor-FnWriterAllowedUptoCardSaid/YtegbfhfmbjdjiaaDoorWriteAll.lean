/-
  The walk of the thin package's WriteAll.
-/
import Derived.Test.YtegbfhfmbjdjiaaDoorWrite2
import Derived.Test.YtegbfhfmbjdjiaaDoorGlob
import Derived.Test.YtegbfhfmbjdjiaaDoorPureW2
namespace Go.Proofs.YtegbfhfmbjdjiaaDoor
open Go.RowKit

/-- A slice of slices of bytes. -/
def PartsAt (w : World) (v : Value) (ps : List (List UInt8)) : Prop :=
  ∃ pvs : List Value, RowAt w v pvs ∧ pvs.length = ps.length ∧ ∀ (j : Nat) (u : Value) (p : List UInt8), pvs[j]? = some u → ps[j]? = some p → BytesAt w u p

theorem PartsAt.new {w w' : World} {v : Value} {ps : List (List UInt8)} (h : PartsAt w v ps) (k : New w w') : PartsAt w' v ps := by
  obtain ⟨pvs, h1, h2, h3⟩ := h
  exact ⟨pvs, h1.new k, h2, fun j u p hu hp => (h3 j u p hu hp).new k⟩

theorem errW_true (ea : Addr) : errW ea true = .iface 81 (.pointer (some ea)) := rfl
theorem errW_false (ea : Addr) : errW ea false = .nilIface := rfl

/-- What holds at the head of each round of WriteAll. -/
def AInv (ea : Addr) (w : World) (b bb bs B : Nat) (room : Int) (size : Nat) (ps : List (List UInt8)) (g : Nat) (i : Value) (wr : World) : Prop :=
  ∃ (k : Nat) (s : Wr) (gk : Value), k ≤ ps.length ∧ i = .int .i64 k ∧ WrAt ea wr b bb bs gk s B ∧ New w wr ∧ (Wr.fresh room size).Step (joined (ps.take k)) s ∧ g = ps.length - k

end Go.Proofs.YtegbfhfmbjdjiaaDoor

/-
  The package-level errors: what the row's list gives of them, and the walk of number.
-/
import Derived.Test.YtfigpbcmnlkdjaaDoorRows
import Derived.Test.YtfigpbcmnlkdjaaDoorBase
import Derived.LaidEql
import Derived.Stop.LaidErr
import Derived.ProofKit
namespace Go.Proofs.YtfigpbcmnlkdjaaDoor
open Go.RowKit

theorem compES : (Tryd.prog.info? 93).map (·.comparable) = some true := by kernel_rfl
theorem sizeES : (Tryd.prog.info? 110).map (·.size) = some 1 := by kernel_rfl

/-- A package-level error in variable g: a pointer of its own. -/
structure ErrAt (w : World) (B g : Nat) (a : Addr) : Prop where
  cell : w.cell? ⟨g, 0, none⟩ = some (.iface 93 (.pointer (some a)))
  blk : ∃ cs t, w.heap[a.block]? = some (.cells cs t (0, 0))
  lt : g < B
  la : a.block < B

theorem ErrAt.keep {S : Nat → Prop} {w w' : World} {B g : Nat} {a : Addr} (h : ErrAt w B g a) (k : Keep S w w') (hS : ∀ i, i < B → ¬ S i) : ErrAt w' B g a := by
  obtain ⟨cs, t, hb⟩ := h.blk
  exact ⟨k.cellAt h.cell (hS _ h.lt), ⟨cs, t, (k.block _ (Array.getElem?_eq_some_iff.1 hb).1 (hS _ h.la)).trans hb⟩, h.lt, h.la⟩

theorem ErrAt.mono {w : World} {B B' g : Nat} {a : Addr} (h : ErrAt w B g a) (hB : B ≤ B') : ErrAt w B' g a := ⟨h.cell, h.blk, by have := h.lt; omega, by have := h.la; omega⟩

theorem eql_same (w : World) (a : Addr) : (binOp .eql 54 (.iface 93 (.pointer (some a))) (.iface 93 (.pointer (some a)))).run Tryd.prog w = .ok (.bool true) w := by
  obtain ⟨i, hi, hc⟩ := Option.map_eq_some_iff.1 compES
  obtain ⟨j, hj, _⟩ := Option.map_eq_some_iff.1 sizeES
  exact run_eql_iface_ptr_same w a Tryd.underlying54 Tryd.underlying93 hi hc hj

theorem eql_other {w : World} {B g g' : Nat} {a a' : Addr} (h : ErrAt w B g a) (h' : ErrAt w B g' a') (hne : a ≠ a') : (binOp .eql 54 (.iface 93 (.pointer (some a))) (.iface 93 (.pointer (some a')))).run Tryd.prog w = .ok (.bool false) w := by
  obtain ⟨i, hi, hc⟩ := Option.map_eq_some_iff.1 compES
  obtain ⟨j, hj, hs⟩ := Option.map_eq_some_iff.1 sizeES
  obtain ⟨cs, t, hb⟩ := h.blk
  obtain ⟨cs', t', hb'⟩ := h'.blk
  exact run_eql_iface_ptr_other w Tryd.underlying54 Tryd.underlying93 hi hc hj (by omega) hne hb hb'

/-- The errors that number asks for, in its order. -/
structure Errs (w : World) (B : Nat) (ad : Nat → Addr) : Prop where
  e0 : ErrAt w B 1 (ad 0)
  e1 : ErrAt w B 0 (ad 1)
  e2 : ErrAt w B 2 (ad 2)
  e3 : ErrAt w B 3 (ad 3)
  e4 : ErrAt w B 4 (ad 4)
  e5 : ErrAt w B 5 (ad 5)
  e6 : ErrAt w B 6 (ad 6)
  e7 : ErrAt w B 7 (ad 7)
  ne : ∀ i j, i ≤ 7 → j ≤ 7 → i ≠ j → ad i ≠ ad j

theorem Errs.keep {S : Nat → Prop} {w w' : World} {B : Nat} {ad : Nat → Addr} (h : Errs w B ad) (k : Keep S w w') (hS : ∀ i, i < B → ¬ S i) : Errs w' B ad :=
  ⟨h.e0.keep k hS, h.e1.keep k hS, h.e2.keep k hS, h.e3.keep k hS, h.e4.keep k hS, h.e5.keep k hS, h.e6.keep k hS, h.e7.keep k hS, h.ne⟩

theorem number_nil (w : World) : Calls Tryd.prog 22 #[.nilIface] w fun e w' => e = .returned (.int .i64 0) ∧ w = w' := by
  go_enter Tryd.func22, Tryd.ntmps22
  go_wp2
  go_ret
  exact ⟨rfl, rfl⟩

set_option maxHeartbeats 1000000 in
theorem number_sink (w : World) (B : Nat) (ad : Nat → Addr) (h : Errs w B ad) : Calls Tryd.prog 22 #[.iface 93 (.pointer (some (ad 7)))] w fun e w' => e = .returned (.int .i64 9) ∧ w = w' := by
  have c0 := h.e0.cell
  have c1 := h.e1.cell
  have c2 := h.e2.cell
  have c3 := h.e3.cell
  have c4 := h.e4.cell
  have c5 := h.e5.cell
  have c6 := h.e6.cell
  have c7 := h.e7.cell
  have q0 := eql_other h.e7 h.e0 (h.ne 7 0 (by omega) (by omega) (by omega))
  have q1 := eql_other h.e7 h.e1 (h.ne 7 1 (by omega) (by omega) (by omega))
  have q2 := eql_other h.e7 h.e2 (h.ne 7 2 (by omega) (by omega) (by omega))
  have q3 := eql_other h.e7 h.e3 (h.ne 7 3 (by omega) (by omega) (by omega))
  have q4 := eql_other h.e7 h.e4 (h.ne 7 4 (by omega) (by omega) (by omega))
  have q5 := eql_other h.e7 h.e5 (h.ne 7 5 (by omega) (by omega) (by omega))
  have q6 := eql_other h.e7 h.e6 (h.ne 7 6 (by omega) (by omega) (by omega))
  have q7 := eql_same w (ad 7)
  clear h
  go_enter Tryd.func22, Tryd.ntmps22
  go_wp2
  go_ret
  exact ⟨rfl, rfl⟩
end Go.Proofs.YtfigpbcmnlkdjaaDoor
